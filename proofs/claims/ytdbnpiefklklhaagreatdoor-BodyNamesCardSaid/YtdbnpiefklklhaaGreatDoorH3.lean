/- Lemmas -/
import Derived.Test.YtdbnpiefklklhaaGreatDoorH2
import Derived.Laws.Slices
set_option linter.all false
section
namespace Go.Am
open Go
section
variable{P:Program}{γ:Gh}{w:World}
def RN{a:Bool}{v:Value}(h:BF γ (.bool a) v):v= .bool a:=h
def D7{k:IntKind}{a:Int}{v:Value}(h:BF γ (.int k a) v):v= .int k a:=h
def NA{a:Ah}{v:Value}(h:BF γ (.str a) v):v= .string ⟨⟨a⟩⟩:=h
def AW.xz{us:List Value}(h:AW γ [] us):us=[]:=h
def AW.LM{a:Aa}{l:List Aa}{us:List Value}(h:AW γ (a::l) us):∃u Dk,us=u::Dk/\BF γ a u/\AW γ l Dk:=h
def AW.one{a:Aa}{us:List Value}(h:AW γ [a] us):∃u,us=[u]/\BF γ a u:=by obtain⟨u,Dk,rfl,h1,h2⟩:=h;rw[h2.xz];exact⟨u,rfl,h1⟩
def AW.LN{a b:Aa}{us:List Value}(h:AW γ [a,b] us):∃u v,us=[u,v]/\BF γ a u/\BF γ b v:=by obtain⟨u,Dk,rfl,h1,h2⟩:=h;obtain⟨v,rfl,c⟩:=h2.one;exact⟨u,v,rfl,h1,c⟩
def AW.YW{a b c:Aa}{us:List Value}(h:AW γ [a,b,c] us):∃u v x,us=[u,v,x]/\BF γ a u/\BF γ b v/\BF γ c x:=by obtain⟨u,Dk,rfl,h1,h2⟩:=h;obtain⟨v,x,rfl,e,d⟩:=h2.LN;exact⟨u,v,x,rfl,h1,e,d⟩
def Value.Jz:Value->Bool
 | .bool _| .pointer _| .slice _ _ _| .func _ _ _| .nilFunc| .map _=>true
 |_=>false
def Ti{op:BinOp}{neg:Bool}(Qs:(op= .eql/\neg=false)\/(op= .neq/\neg=true))(t:TypeId)(c b:Operand){x y:Value}(hx:Value.Jz x=true)(hy:Value.Jz y=true){e:Bool}
  (he:(Op.equal t x y).run P w= .ok e w):(do eqGuard op t c b x y;binOp op t x y:Sem Value).run P w= .ok (.bool (e != neg)) w:=by
 have hg:eqGuard op t c b x y=pure ():=by rcases Qs with⟨rfl,_⟩|⟨rfl,_⟩<;>cases x<;>simp[Value.Jz] at hx<;>rfl
 rw[hg];rcases Qs with⟨rfl,rfl⟩|⟨rfl,rfl⟩
 .have hb:binOp .eql t x y=(do pure (.bool (<-Op.equal t x y))):=by cases x<;>simp[Value.Jz] at hx<;>cases y<;>simp[Value.Jz] at hy<;>rfl
  simp[hb,he]
 .have hb:binOp .neq t x y=(do pure (.bool (!(<-Op.equal t x y)))):=by cases x<;>simp[Value.Jz] at hx<;>cases y<;>simp[Value.Jz] at hy<;>rfl
  simp[hb,he]
def fP{op:BinOp}{neg:Bool}(Qs:(op= .eql/\neg=false)\/(op= .neq/\neg=true))(t:TypeId)(d c:Operand)(ht:P.underlying t=some .bool)(a b:Bool):
  (do eqGuard op t d c (.bool a) (.bool b);binOp op t (.bool a) (.bool b):Sem Value).run P w= .ok (.bool ((a==b) != neg)) w:=
 Ti Qs t d c rfl rfl (run_equalIn_bool' w 9999 t a b ht)
def UL{d:Nat}{t e:TypeId}(ht:P.underlying t=some (.pointer e))(hz:∃n,BO P e=some (n+1)){a b:Aa}{x y:Value}(hx:BF γ a x)(hy:BF γ b y){r:Bool}(h:qV a b=some r):
  (Op.equalIn (d+1) t x y).run P w= .ok r w/\Value.Jz x=true/\Value.Jz y=true:=by
 obtain⟨n,hn⟩:=hz;unfold qV at h;split at h
 .rename_i q;cases h;rw[show x= .pointer none from hx];have:∃p,y= .pointer p/\p.isNone=q.isNone:=by
   cases q with
   |none=>exact⟨none,hy,rfl⟩
   |some p=>obtain⟨i,o⟩:=p;obtain⟨b,_,rfl⟩:=hy;exact⟨_,rfl,rfl⟩
  obtain⟨p,rfl,hp⟩:=this;exact⟨by simp[Op.equalIn,run_underlying ht,hp],rfl,rfl⟩
 .rename_i p;cases h;obtain⟨i,o⟩:=p;obtain⟨b,_,rfl⟩:=hx;rw[show y= .pointer none from hy];exact⟨by simp[Op.equalIn,run_underlying ht],rfl,rfl⟩
 .rename_i p q;split at h;.rename_i he;cases h;subst he;obtain⟨i,o⟩:=p;obtain⟨b,hb,rfl⟩:=hx;obtain⟨b',S4,rfl⟩:=hy;rw[hb] at S4;cases S4;exact⟨by simp[Op.equalIn,run_underlying ht,Dp hn,sameAddr],rfl,rfl⟩
  .cases h
 .cases h;rw[show x= .pointer none from hx];obtain⟨b,o,rfl,_⟩:=hy;exact⟨by simp[Op.equalIn,run_underlying ht],rfl,rfl⟩
 .cases h;rw[show y= .pointer none from hy];obtain⟨b,o,rfl,_⟩:=hx;exact⟨by simp[Op.equalIn,run_underlying ht],rfl,rfl⟩
 .cases h
def Eh{d:Nat}{t e:TypeId}(ht:P.underlying t=some (.slice e)){p q:Option Addr}{n c m k:Nat}(h:p=none\/q=none):
  (Op.equalIn (d+1) t (.slice p n c) (.slice q m k)).run P w= .ok (p.isNone&&q.isNone) w:=by
 cases p<;>cases q<;>simp at h<;>simp[Op.equalIn,run_underlying ht]
def LO{d:Nat}{t:TypeId}{a b:Array TypeId}{c:Bool}(ht:P.underlying t=some (.func a b c)){f:Fn}{x y:Array Value}:
  (Op.equalIn (d+1) t .nilFunc .nilFunc).run P w= .ok true w/\(Op.equalIn (d+1) t .nilFunc (.func f x y)).run P w= .ok false w/\(Op.equalIn (d+1) t (.func f x y) .nilFunc).run P w= .ok false w:=by
 refine⟨?_,?_,?_⟩<;>simp[Op.equalIn,run_underlying ht]
def K9{d:Nat}{t k e:TypeId}(ht:P.underlying t=some (.map k e)){p q:Option Nat}(h:p=none\/q=none):
  (Op.equalIn (d+1) t (.map p) (.map q)).run P w= .ok (p.isNone&&q.isNone) w:=by
 cases p<;>cases q<;>simp at h<;>simp[Op.equalIn,run_underlying ht]
def UM{d:Nat}{t:TypeId}{k:NK}(ht:match k with| .sl=>∃e,P.underlying t=some (.slice e)| .fn=>∃a b c,P.underlying t=some (.func a b c)| .mp=>∃a b,P.underlying t=some (.map a b))
  {a b:Aa} {x y:Value} (hx:BF γ a x) (hy:BF γ b y) {r:Bool} (h:qW k a b=some r):
  (Op.equalIn (d+1) t x y).run P w= .ok r w/\Value.Jz x=true/\Value.Jz y=true:=by
 unfold qW at h;split at h;case h_1=>obtain⟨e,ht⟩:=ht;cases h;rw[show x= .slice none 0 0 from hx,show y= .slice none 0 0 from hy];exact⟨Eh ht (.inl rfl),rfl,rfl⟩
 case h_2=>obtain⟨e,ht⟩:=ht;cases h;rw[show x= .slice none 0 0 from hx];obtain⟨_,_,rfl,_⟩:=hy;exact⟨Eh ht (.inl rfl),rfl,rfl⟩
 case h_3=>obtain⟨e,ht⟩:=ht;cases h;rw[show y= .slice none 0 0 from hy];obtain⟨_,_,rfl,_⟩:=hx;exact⟨Eh ht (.inr rfl),rfl,rfl⟩
 case h_4=>obtain⟨e,ht⟩:=ht;cases h;rw[show x= .slice none 0 0 from hx];obtain⟨_,rfl⟩:=hy;exact⟨Eh ht (.inl rfl),rfl,rfl⟩
 case h_5=>obtain⟨e,ht⟩:=ht;cases h;rw[show y= .slice none 0 0 from hy];obtain⟨_,rfl⟩:=hx;exact⟨Eh ht (.inr rfl),rfl,rfl⟩
 case h_6=>obtain⟨e,ht⟩:=ht;cases h;rw[show x= .slice none 0 0 from hx];obtain⟨_,_,_,rfl,_⟩:=hy;exact⟨Eh ht (.inl rfl),rfl,rfl⟩
 case h_7=>obtain⟨e,ht⟩:=ht;cases h;rw[show y= .slice none 0 0 from hy];obtain⟨_,_,_,rfl,_⟩:=hx;exact⟨Eh ht (.inr rfl),rfl,rfl⟩
 case h_8=>obtain⟨_,_,_,ht⟩:=ht;cases h;rw[show x= .nilFunc from hx,show y= .nilFunc from hy];exact⟨(LO ht (f:= .func 0) (x:=#[]) (y:=#[])).1,rfl,rfl⟩
 case h_9=>obtain⟨_,_,_,ht⟩:=ht;cases h;rw[show x= .nilFunc from hx];obtain⟨_,_,rfl,_⟩:=hy;exact⟨(LO ht).2.1,rfl,rfl⟩
 case h_10=>obtain⟨_,_,_,ht⟩:=ht;cases h;rw[show y= .nilFunc from hy];obtain⟨_,_,rfl,_⟩:=hx;exact⟨(LO ht).2.2,rfl,rfl⟩
 case h_11=>
  rename_i q;obtain⟨_,_,ht⟩:=ht;cases h;rw[show x= .map none from hx];cases q with
  |none=>rw[show y= .map none from hy];exact⟨K9 ht (.inl rfl),rfl,rfl⟩
  |some id=>obtain⟨b,_,rfl⟩:=hy;exact⟨K9 ht (.inl rfl),rfl,rfl⟩
 case h_12=>obtain⟨_,_,ht⟩:=ht;cases h;rw[show y= .map none from hy];obtain⟨b,_,rfl⟩:=hx;exact⟨K9 ht (.inr rfl),rfl,rfl⟩
 .cases h
def zH{op:BinOp}{args:List Aa}{u:Aa}(h:Az (.int op) args=some u):∃k a l b,args=[.int k a,.int l b]/\qU op k a l b=some u:=by
 simp only[Az] at h;split at h;.exact⟨_,_,_,_,rfl,h⟩
 .cases h
def zI{op:BinOp}{args:List Aa}{u:Aa}(h:Az (.str op) args=some u):∃a b,args=[.str a,.str b]/\fF op a b=some u:=by
 simp only[Az] at h;split at h;.exact⟨_,_,rfl,h⟩
 .cases h
def fQ{op:BinOp}{t:TypeId}{p:X3}(hp:PR P op t=some p)(f c:Operand){args:List Aa}{x y:Value}(ha:AW γ args [x,y]){u:Aa}(h:Az p args=some u):
  ∃v,(do eqGuard op t f c x y;binOp op t x y:Sem Value).run P w= .ok v w/\BF γ u v:=by
 unfold PR at hp;split at hp;.cases hp;obtain⟨k,a,l,b,rfl,h⟩:=zH h;obtain⟨_,_,e,hx,hy⟩:=ha.LN;cases e;rw[D7 hx,D7 hy];exact fK t f c h
 .cases hp;obtain⟨a,b,rfl,h⟩:=zI h;obtain⟨_,_,e,hx,hy⟩:=ha.LN;cases e;rw[NA hx,NA hy];exact fL t f c h
 .rename_i d h1 h2 hu;obtain⟨neg,Qs,g⟩:∃neg,((op= .eql/\neg=false)\/(op= .neq/\neg=true))/\Ta P t neg d=some p:=by cases op<;>first|cases hp;done|exact⟨false,.inl ⟨rfl,rfl⟩,hp⟩|exact⟨true,.inr ⟨rfl,rfl⟩,hp⟩
  clear h1 h2 hp;have hp:=g;clear g;unfold Ta at hp;split at hp
  .cases hp;simp only[Az] at h;split at h;.obtain⟨_,_,e,hx,hy⟩:=ha.LN;cases e;cases h;rw[RN hx,RN hy];exact⟨_,fP Qs t f c hu _ _,rfl⟩
   .cases h
  .split at hp
   .rename_i hg;cases hk:OQ P 20 t with
    |none=>rw[hk] at hp;cases hp
    |some ks=>
     rw[hk] at hp;cases hp;simp only[Az] at h;split at h;.obtain⟨_,_,e,hx,hy⟩:=ha.LN;cases e;exact fO Qs hg hk ⟨_,hu⟩ hx hy h
     .cases h
   .cases hp
  .split at hp;.cases hp
   .rename_i e hz;cases hp;simp only[Az] at h;split at h
    .rename_i a b;obtain⟨_,_,e,hx,hy⟩:=ha.LN;cases e;cases hq:qV a b with
     |none=>rw[hq] at h;cases h
     |some r=>rw[hq] at h;cases h;obtain⟨p1,p2,i⟩:=UL (w:=w) (d:=9999) hu (by cases X9:BO P e with|none=>rw[X9] at hz;exact absurd rfl hz|some n=>cases n with|zero=>rw[X9] at hz;exact absurd rfl hz|succ n=>exact⟨n,rfl⟩) hx hy hq;exact⟨_,Ti Qs t f c p2 i p1,rfl⟩
    .cases h
  all_goals first
   |cases hp;done
   | (cases hp
      simp only [Az] at h
      split at h
      . rename_i a b
        obtain ⟨_, _, e, hx, hy⟩ := ha.LN
        cases e
        cases hq : qW _ a b with
        | none => rw [hq] at h; cases h
        | some r =>
          rw [hq] at h; cases h
          obtain ⟨p1, p2, i⟩ := UM (w := w) (P := P) (t := t) (d := 9999) (by first | exact ⟨_, hu⟩ | exact ⟨_, _, hu⟩ | exact ⟨_, _, _, hu⟩) hx hy hq
          exact ⟨_, Ti Qs t f c p2 i p1, rfl⟩
      . cases h)
 .cases hp
end
end Go.Am
end
section
namespace Go.Am
open Go
section
variable{P:Program}{γ:Gh}{w:World}
def Ŗ{op:UnOp}{a u:Aa}{x:Value}(hx:BF γ a x)(h:Ō op a=some u):∃v,(Op.unary op x).run P w= .ok v w/\BF γ u v:=by
 unfold Ō at h;split at h;.cases h;rw[RN hx];exact⟨_,rfl,rfl⟩
 .cases h;rw[D7 hx];exact⟨_,rfl,rfl⟩
 .rename_i k n;rw[D7 hx];unfold ă at h;cases hs:PO (Op.unary .xor (.int k n)) with
  |none=>rw[hs] at h;cases h
  |some v=>
   rw[hs] at h;have b:=VR hs;simp only[Cm] at h;split at h;.cases h;exact⟨_,by rw[b];rfl,rfl⟩
   .cases h
 .cases h
def aE{src dst:TypeId}{k l k':IntKind}{n:Int}(hs:P.underlying src=some (.int l))(hd:P.underlying dst=some (.int k)):(convert src dst (.int k' n)).run P w= .ok (.int k (k.wrap n)) w:=by simp[convert,run_underlying hs,run_underlying hd,Conv.intToInt]
def aF{src dst:TypeId}{l k':IntKind}{n:Int}(hs:P.underlying src=some (.int l))(hd:P.underlying dst=some .string):(convert src dst (.int k' n)).run P w= .ok (.string (Utf8.encode n)) w:=by simp[convert,run_underlying hs,run_underlying hd,Conv.intToString]
def zJ{t:TypeId}{f off:Nat}{sh:Option Nat}(hf:H8 P t f=some (off,sh)){cs:List Aa}{x:Value}(hx:BF γ (.agg cs) x){u:Aa}(h:E0 cs off sh=some u):∃v,(Instr.field t x f).run P w= .ok v w/\BF γ u v:=by
 unfold H8 at hf;split at hf
 .rename_i fs hu;split at hf
  .rename_i fd rM;split at hf;.rename_i n b h1 h2;cases hf;obtain⟨us,rfl,hr,h1c⟩:=hx;obtain⟨v,p,q⟩:=fM (w:=w) h2 hr h1c h;exact⟨v,by simp[Instr.field,run_underlying hu,rM,asAgg,p],q⟩
   .cases hf
  .cases hf
 .cases hf
def QT{i:Int}{len j:Nat}(h:LH i len=some j):0<=i/\i<len/\i.toNat=j:=by
 unfold LH at h;split at h;.rename_i hc;cases h;exact⟨hc.1,hc.2,rfl⟩
 .cases h
def Ya{t e:TypeId}{len n:Nat}{sh:Option Nat}(ht:P.underlying t=some (.array len e))(hn:BO P e=some n)(lP:EW P e=some sh){cs:List Aa}{x:Value}(hx:BF γ (.agg cs) x){k:IntKind}{i:Int}{j:Nat}
  (hi:LH i len=some j) {u:Aa} (h:E0 cs (j*n) sh=some u):∃v,(Instr.index t x (.int k i)).run P w= .ok v w/\BF γ u v:=by
 obtain⟨us,rfl,hr,h1c⟩:=hx;obtain⟨p1,p2,b⟩:=QT hi;obtain⟨v,p,q⟩:=fM (w:=w) lP hr h1c h;exact⟨v,by simp[Instr.index,asIntOf,run_underlying ht,p1,p2,Dp hn,b,p],q⟩
def Yb{t:TypeId}(ht:P.underlying t=some .string){s:Ah}{k:IntKind}{i:Int}{b:UInt8}(h0:0<=i)(h:s[i.toNat]?=some b):
  (Instr.index t (.string ⟨⟨s⟩⟩) (.int k i)).run P w= .ok (.int .u8 b.toNat) w:=by
 obtain⟨hlt,hb⟩:=Aj.1 h;have e:(⟨⟨s⟩⟩:ByteArray)[i.toNat]?=some b:=by rw[ByteArray.getElem?_lt' _ _ (show i.toNat<(⟨⟨s⟩⟩:ByteArray).size from hlt),<-hb];rfl
 simp[Instr.index,asIntOf,run_underlying ht,h0,e]
def rN{p u:Aa}{x:Value}{n:Nat}(hx:BF γ p x)(h:VC p n=some u):∃a,x= .pointer (some a)/\BF γ u (.pointer (some (a.add n))):=by
 unfold VC at h;split at h;.rename_i cs;cases h;obtain⟨b,o,rfl,hm⟩:=hx;refine⟨_,rfl,b,o+n,?_,hm.drop n⟩;unfold Addr.add;split<;>simp_all
 .rename_i id o;cases h;obtain⟨b,hb,rfl⟩:=hx;refine⟨_,rfl,b,hb,?_⟩;unfold Addr.add;split<;>simp_all
 .cases h
def fR{t:TypeId}{f off:Nat}{sh:Option Nat}(hf:H8 P t f=some (off,sh)){p u:Aa}{x:Value}(hx:BF γ p x)(h:VC p off=some u):∃v,(Instr.fieldAt t x f).run P w= .ok v w/\BF γ u v:=by
 obtain⟨a,rfl,hu⟩:=rN hx h;refine⟨_,?_,hu⟩;unfold H8 at hf;split at hf
 .rename_i fs zG;split at hf
  .rename_i fd rM;split at hf;.rename_i n b h1 h2;cases hf;simp[Instr.fieldAt,run_underlying zG,rM,Instr.sureAddr,fieldPlace,Dp h1]
   .cases hf
  .cases hf
 .cases hf
def mI{t e:TypeId}{n:Nat}(ht:P.underlying t=some (.slice e))(hn:BO P e=some n){s u:Aa}{x:Value}(hx:BF γ s x){k:IntKind}{i:Int}(h:elemOf n s i=some u):
  ∃v,(Instr.indexAt t x (.int k i)).run P w= .ok v w/\BF γ u v:=by
 have Ir:P.underlying t=some (.slice (P.elem t)):=by simp[Program.elem,ht]
 have he:P.elem t=e:=by simp[Program.elem,ht]
 unfold elemOf at h;split at h
 .rename_i z Aw;split at h
  .rename_i hz;subst hz;split at h
   .rename_i h0;cases hr:Aw[i.toNat]? with
    |none=>rw[hr] at h;cases h
    |some row=>
     rw[hr] at h;cases h;obtain⟨d,cap,rfl,hc,hsp,hm⟩:=hx;obtain⟨hl,c⟩:=hm.get hr;have hlt:i<Aw.length:=by have:=(Aj.1 hr).1;omega
     have mJ:=Nv hsp hc Ab;generalize d.block=b at*;generalize d.off=o at*;subst mJ;refine⟨.pointer (some ((⟨b,o,none⟩:Addr).add (i.toNat*z))),by rw[run_indexAt_slice w t _ _ _ _ _ Ir,Af ⟨h0,hlt⟩,he,Dp hn];rfl,b,o+i.toNat*z,?_,c⟩;unfold Addr.add;split<;>simp_all
   .cases h
  .cases h
 .rename_i id off len z;split at h
  .rename_i hz;subst hz;cases hj:LH i len with
   |none=>rw[hj] at h;cases h
   |some j=>rw[hj] at h;cases h;obtain⟨p1,p2,f⟩:=QT hj;subst f;obtain⟨b,cap,hb,rfl,hc,hz⟩:=hx;refine⟨.pointer (some ((⟨b,off,none⟩:Addr).add (i.toNat*z))),by rw[run_indexAt_slice w t _ _ _ _ _ Ir,Af ⟨p1,p2⟩,he,Dp hn];rfl,b,hb,?_⟩;unfold Addr.add;split<;>simp_all
  .cases h
 .cases h
def zK{t e:TypeId}{len n:Nat}(ht:P.underlying t=some (.array len e))(hn:BO P e=some n){p u:Aa}{x:Value}(hx:BF γ p x){k:IntKind}{i:Int}{j:Nat}(hj:LH i len=some j)(h:VC p (j*n)=some u):
  ∃v,(Instr.indexAt t x (.int k i)).run P w= .ok v w/\BF γ u v:=by
 have Ir:P.underlying t=some (.array (P.arrayLen t) (P.elem t)):=by simp[Program.elem,Program.arrayLen,ht]
 have he:P.elem t=e:=by simp[Program.elem,ht]
 have hl:P.arrayLen t=len:=by simp[Program.arrayLen,ht]
 obtain⟨a,rfl,hu⟩:=rN hx h;obtain⟨p1,p2,b⟩:=QT hj;subst b;exact⟨_,by rw[run_indexAt_array w t _ _ _ Ir,hl,Af ⟨p1,p2⟩,he,Dp hn];rfl,hu⟩
def x_{t ty:TypeId}{isStr:Bool}(ht:if isStr=true then P.underlying t=some .string else∃e,P.underlying t=some (.slice e)){ts:Array TypeId}(aG:ts[0]?=some t){s u:Aa}{x:Value}(hx:BF γ s x)(h:lenOf isStr s=some u):
  ∃v,(Builtin.len_ ts ty #[x]).run P w= .ok v w/\BF γ u v:=by
 cases isStr with
 |true=>
  replace ht:P.underlying t=some .string:=ht;unfold lenOf at h;split at h<;>first|cases h;done|skip
  simp only[BE] at h;cases h;rw[NA hx];refine⟨_,by simp[Builtin.len_,aG,run_underlying ht];rfl,rfl⟩
 |false=>
  obtain⟨e,ht⟩:∃e,P.underlying t=some (.slice e):=ht;unfold lenOf at h;split at h;.cases h;obtain⟨c,cap,rfl,_⟩:=hx;exact⟨_,by simp[Builtin.len_,aG,run_underlying ht];rfl,rfl⟩
  .cases h;obtain⟨b,cap,_,rfl,_⟩:=hx;exact⟨_,by simp[Builtin.len_,aG,run_underlying ht];rfl,rfl⟩
  .cases h;rw[show x= .slice none 0 0 from hx];exact⟨_,by simp[Builtin.len_,aG,run_underlying ht];rfl,rfl⟩
  .cases h;obtain⟨b,rfl⟩:=hx;exact⟨_,by simp[Builtin.len_,aG,run_underlying ht];rfl,rfl⟩
  .cases h
  .cases h
def ya{vs:List Aa}{x:Value}(hx:BF γ (.tuple vs) x){i:Nat}{u:Aa}(h:vs[i]?=some u):∃v,(Instr.extract x i).run P w= .ok v w/\BF γ u v:=by
 obtain⟨us,rfl,hr⟩:=hx;obtain⟨v,hv,q⟩:=hr.get h;exact⟨v,by
  have:us[i]?=some v:=by simpa using hv
  simp[Instr.extract,this],q⟩
end
end Go.Am
end
section
namespace Go.Am
open Go
section
variable{P:Program}{γ:Gh}{w:World}
def NB{n:Int}{top j:Nat}(h:Ey n top=some j):0<=n/\n<=top/\n.toNat=j:=by
 unfold Ey at h;split at h;.rename_i hc;cases h;exact⟨hc.1,hc.2,rfl⟩
 .cases h
def J9{lo hi:Option Value}{as:List Aa}{len cap l h:Nat}{isSlice:Bool}(hb:Dz lo.isSome hi.isSome len as=some (l,h))(hr:AW γ as (lo.toList++hi.toList))(hc:len<=cap):
  (Instr.sliceBounds isSlice len cap lo hi none).run P w= .ok (l,h,cap) w/\l<=h/\h<=len:=by
 cases lo<;>cases hi<;>simp only[Option.isSome,Dz] at hb
 .split at hb;.cases hb;exact⟨by simp[Instr.sliceBounds],A7 _,Ae _⟩
  .cases hb
 .rename_i hv;split at hb
  .rename_i k h';cases b:Ey h' len with
   |none=>rw[b] at hb;cases hb
   |some j=>rw[b] at hb;cases hb;obtain⟨p1,p2,d⟩:=NB b;obtain⟨_,e,hx⟩:=hr.one;cases e;rw[D7 hx];refine⟨?_,A7 _,Ab⟩;have:h'<=(cap:Int):=Ab;simp[Instr.sliceBounds,run_sliceBound,p1,this,d]
  .cases hb
 .rename_i n;split at hb
  .rename_i k l';cases b:Ey l' len with
   |none=>rw[b] at hb;cases hb
   |some j=>rw[b] at hb;cases hb;obtain⟨p1,p2,d⟩:=NB b;obtain⟨_,e,hx⟩:=hr.one;cases e;rw[D7 hx];refine⟨?_,Ab,Ae _⟩;simp[Instr.sliceBounds,run_sliceBound,p1,p2,d]
  .cases hb
 .rename_i n hv;split at hb
  .rename_i k l' k' h';cases b:Ey h' len with
   |none=>rw[b] at hb;cases hb
   |some j=>
    rw[b] at hb;simp only[Cm] at hb;cases c:Ey l' j with
    |none=>rw[c] at hb;cases hb
    |some i=>rw[c] at hb;cases hb;obtain⟨p1,p2,d⟩:=NB b;obtain⟨m,g,f⟩:=NB c;obtain⟨_,_,e,hx,hy⟩:=hr.LN;cases e;rw[D7 hx,D7 hy];refine⟨?_,Ab,Ab⟩;have:h'<=(cap:Int):=Ab;simp[Instr.sliceBounds,run_sliceBound,p1,this,m,d,f,g]
  .cases hb
def EA.slice{Aw:List (List Aa)}{z b o:Nat}(h:EA γ Aw z b o)(l k:Nat):EA γ ((Aw.take k).drop l) z b (o+l*z):=by
 refine EA.GF λi r hi=>?_;rw[Cp,Cj] at hi;split at hi;.obtain⟨p,q⟩:=h.get hi;exact⟨p,by rw[show o+l*z+i*z=o+(l+i)*z by rw[BA];omega];exact q⟩
 .cases hi
def yb{t:TypeId}{isStr:Bool}{size:Nat}(ht:if isStr=true then P.underlying t=some .string else∃e,P.underlying t=some (.slice e)/\BO P e=some size){s u:Aa}{x:Value}(hx:BF γ s x){as:List Aa}{lo hi:Option Value}
  (hr:AW γ as (lo.toList++hi.toList)) (h:IY size isStr lo.isSome hi.isSome s as=some u):
  ∃v,(Instr.sliceAt t x lo hi none).run P w= .ok v w/\BF γ u v:=by
 unfold IY at h;split at h
 .split at h
  .rename_i s Qh;subst Qh;replace ht:P.underlying t=some .string:=ht;cases hb:Dz lo.isSome hi.isSome s.length as with
   |none=>rw[hb] at h;cases h
   |some d=>
    obtain⟨l,k⟩:=d;rw[hb] at h;cases h;obtain⟨p1,p2,f⟩:=J9 (P:=P) (w:=w) (isSlice:=false) hb hr (Ae _);rw[NA hx,run_sliceAt_string w t _ _ _ _ ht];refine⟨.string ((⟨⟨s⟩⟩:ByteArray).extract l k),?_,?_⟩;.have e:(⟨⟨s⟩⟩:ByteArray).size=s.length:=rfl;simp only[Instr.slice,Sem.run_bind,run_underlying ht,Result.andThen_ok];simp only[e,p1,Option.isSome,Ck,DU,Sem.run_bind,Sem.run_pure,Result.andThen_ok]
    .show Value.string _=Value.string _;congr 1
     apply ByteArray.ext;apply Ge;simp[ByteArray.data_extract,Hs,List.drop_take]
  .cases h
 .rename_i z Aw;split at h
  .rename_i hc;obtain⟨rfl,rfl⟩:=hc;obtain⟨e,ht,hn⟩:∃e,P.underlying t=some (.slice e)/\BO P e=some z:=ht;have Ir:P.underlying t=some (.slice (P.elem t)):=by simp[Program.elem,ht]
   have he:P.elem t=e:=by simp[Program.elem,ht]
   obtain⟨c,cap,rfl,hc,hsp,hm⟩:=hx;cases hb:Dz lo.isSome hi.isSome Aw.length as with
   |none=>rw[hb] at h;cases h
   |some d=>
    obtain⟨l,k⟩:=d;rw[hb] at h;cases h;obtain⟨p1,p2,f⟩:=J9 (P:=P) (w:=w) (isSlice:=true) hb hr hc;rw[run_sliceAt_slice w t _ _ _ _ Ir,run_slice_any w t _ _ _ Ir,p1,he,Result.andThen_ok,Dp hn];refine⟨_,rfl,?_⟩;show BF γ (.sl z ((Aw.take k).drop l)) (.slice (if cap=l then some c else Option.map (λq:Addr=>q.add (l*z)) (some c)) (k-l) (cap-l));have hlen:((Aw.take k).drop l).length=k-l:=Ei;by_cases hcl:cap=l;.have:(Aw.take k).drop l=[]:=CO Ab;rw[this];simp only[hcl,BE];exact⟨c,l-l,Ei,Ax,.inr Ab,trivial⟩
    .rw[Ad hcl];have mJ:c=⟨c.block,c.off,none⟩:=by
      rcases hsp with hsp|hsp
      .cases c;simp_all
      .omega
     generalize c.block=b at*;generalize c.off=o at*;subst mJ;refine⟨⟨b,o+l*z,none⟩,cap-l,?_,Ab,.inl rfl,hm.slice l k⟩;rw[hlen];simp only[By];unfold Addr.add;split<;>simp_all
  .cases h
 .rename_i id off n z;split at h
  .rename_i hc;obtain⟨rfl,rfl⟩:=hc;obtain⟨e,ht,hn⟩:∃e,P.underlying t=some (.slice e)/\BO P e=some z:=ht;have Ir:P.underlying t=some (.slice (P.elem t)):=by simp[Program.elem,ht]
   have he:P.elem t=e:=by simp[Program.elem,ht]
   obtain⟨b,cap,g,rfl,hc,hz,KW⟩:=hx;cases hb:Dz lo.isSome hi.isSome n as with
   |none=>rw[hb] at h;cases h
   |some d=>
    obtain⟨l,k⟩:=d;rw[hb] at h;simp only[Cm] at h;split at h
    .rename_i rO;cases h;obtain⟨p1,p2,f⟩:=J9 (P:=P) (w:=w) (isSlice:=true) hb hr hc;rw[run_sliceAt_slice w t _ _ _ _ Ir,run_slice_any w t _ _ _ Ir,p1,he,Result.andThen_ok,Dp hn];refine⟨_,rfl,b,cap-l,g,?_,Ab,⟨hz.1,Bp (Nat.sub_le _ _) hz.2⟩,?_⟩;.show Value.slice (if cap=l then some ⟨b,off,none⟩ else Option.map (λq:Addr=>q.add (l*z)) (some ⟨b,off,none⟩)) (k-l) (cap-l)=_;rw[Ad Ab];simp only[By];unfold Addr.add;split<;>simp_all
     .rw[KW,Rq,<-BA,aIP Ab]
    .rename_i rO;cases h;obtain⟨p1,p2,f⟩:=J9 (P:=P) (w:=w) (isSlice:=true) hb hr hc;rw[run_sliceAt_slice w t _ _ _ _ Ir,run_slice_any w t _ _ _ Ir,p1,he,Result.andThen_ok,Dp hn];have YX:k-l=0:=Ab;by_cases hcl:cap=l;.refine⟨_,rfl,⟨b,off,none⟩,cap-l,?_,Ax,.inl rfl,trivial⟩;show Value.slice (if cap=l then some ⟨b,off,none⟩ else Option.map (λq:Addr=>q.add (l*z)) (some ⟨b,off,none⟩)) (k-l) (cap-l)=_;rw[Af hcl,YX];rfl
     .refine⟨_,rfl,(Addr.mk b off none).add (l*z),cap-l,?_,Ax,.inl ?_,trivial⟩;.show Value.slice (if cap=l then some ⟨b,off,none⟩ else Option.map (λq:Addr=>q.add (l*z)) (some ⟨b,off,none⟩)) (k-l) (cap-l)=_;rw[Ad hcl,YX];rfl
      .unfold Addr.add;split<;>simp_all
  .cases h
 .split at h;.cases h
  .rename_i Qh;have Qh:isStr=false:=by simpa using Qh
   subst Qh;obtain⟨e,ht,hn⟩:∃e,P.underlying t=some (.slice e)/\BO P e=some size:=ht;have Ir:P.underlying t=some (.slice (P.elem t)):=by simp[Program.elem,ht]
   have he:P.elem t=e:=by simp[Program.elem,ht]
   rw[show x= .slice none 0 0 from hx];cases hb:Dz lo.isSome hi.isSome 0 as with
   |none=>rw[hb] at h;cases h
   |some d=>obtain⟨l,k⟩:=d;rw[hb] at h;cases h;obtain⟨p1,p2,f⟩:=J9 (P:=P) (w:=w) (isSlice:=true) hb hr (Ae _);rw[run_sliceAt_slice w t _ _ _ _ Ir,run_slice_any w t _ _ _ Ir,p1,he,Result.andThen_ok,Dp hn];refine⟨_,rfl,?_⟩;have:l=0:=Ab;subst this;have:k=0:=Ab;subst this;rfl
 .cases h
end
end Go.Am
end
section
namespace Go.Am
open Go
section
variable{P:Program}{γ:Gh}{w:World}
def Hc{a:Aa}{v:Value}(h:BF γ a v)(hn:0<a.cells.length):AW γ a.cells v.cells.toList/\∀u∈v.cells.toList,u.oneCell'=true:=by
 cases a with
 |agg cs=>obtain⟨us,rfl,p,q⟩:=h;exact⟨p,q⟩
 |tuple vs=>exact absurd hn (by simp[Aa.cells])
 |bool b=>rw[show v=_ from h];exact⟨⟨_,[],rfl,rfl,rfl⟩,QU⟩
 |int k n=>rw[show v=_ from h];exact⟨⟨_,[],rfl,rfl,rfl⟩,QU⟩
 |str s=>rw[show v=_ from h];exact⟨⟨_,[],rfl,rfl,rfl⟩,QU⟩
 |slnil=>rw[show v=_ from h];exact⟨⟨_,[],rfl,rfl,rfl⟩,QU⟩
 |H5 z=>have h0:=h;obtain⟨b,rfl⟩:=h;exact⟨⟨_,[],rfl,h0,rfl⟩,QU⟩
 |nilFunc=>rw[show v=_ from h];exact⟨⟨_,[],rfl,rfl,rfl⟩,QU⟩
 |nilIface=>rw[show v=_ from h];exact⟨⟨_,[],rfl,rfl,rfl⟩,QU⟩
 |ptr p=>
  have h0:=h;cases p with
  |none=>rw[show v=_ from h];exact⟨⟨_,[],rfl,rfl,rfl⟩,QU⟩
  |some p=>obtain⟨i,o⟩:=p;obtain⟨b,_,rfl⟩:=h;exact⟨⟨_,[],rfl,h0,rfl⟩,QU⟩
 |BR cs=>have h0:=h;obtain⟨b,o,rfl,_⟩:=h;exact⟨⟨_,[],rfl,h0,rfl⟩,QU⟩
 |sl z Aw=>have h0:=h;obtain⟨d,cap,rfl,_⟩:=h;exact⟨⟨_,[],rfl,h0,rfl⟩,QU⟩
 |C3 id off len z=>have h0:=h;obtain⟨b,cap,_,rfl,_⟩:=h;exact⟨⟨_,[],rfl,h0,rfl⟩,QU⟩
 |map m=>
  have h0:=h;cases m with
  |none=>rw[show v=_ from h];exact⟨⟨_,[],rfl,rfl,rfl⟩,QU⟩
  |some id=>obtain⟨b,_,rfl⟩:=h;exact⟨⟨_,[],rfl,h0,rfl⟩,QU⟩
 |func fn f c=>have h0:=h;obtain⟨fs,cs,rfl,_⟩:=h;exact⟨⟨_,[],rfl,h0,rfl⟩,QU⟩
 |iface t a=>have h0:=h;obtain⟨u,rfl,_⟩:=h;exact⟨⟨_,[],rfl,h0,rfl⟩,QU⟩
def NC:∀(vs:List Value) (off j:Nat) (cells:Array Value),off+j+vs.length<=cells.size->
  (vs.zipIdx j).foldl (λcs (c,i)=>cs.setIfInBounds (off+i) c) cells=(cells.toList.take (off+j)++vs++cells.toList.drop (off+j+vs.length)).toArray
 |[],off,j,cells,h=>Ax
 |v::vs,off,j,cells,h=>by
  simp only[qQ,fk];rw[NC vs off (j+1) _ (by simp at h⊢;omega)];simp only[AJ] at h;have hk:off+j<cells.toList.length:=Ei;have e0:(cells.setIfInBounds (off+j) v).toList=cells.toList.set (off+j) v:=Ax;have d:(cells.toList.set (off+j) v).take (off+j+1)=cells.toList.take (off+j)++[v]:=by rw[List.take_add_one,YI (Ae _),AE hk];rfl
  have b:(cells.toList.set (off+j) v).drop (off+j+1+vs.length)=cells.toList.drop (off+j+1+vs.length):=aIQ Ab;rw[e0,(Ab:off+(j+1)=off+j+1),d,b];rw[(Ei:off+j+(v::vs).length=off+j+1+vs.length)];simp
def VT{place:Nat->Option (Nat×Nat)}:∀{places:List (Nat×Nat)} {as:List Aa} {parts:List (Nat×Value)} {cs:List Aa} {us:Array Value} {GB:List Aa},Br cs (places.zip as)=some GB->places.length=as.length->
  parts.map (λp=>place p.1)=places.map some->AW γ as (parts.map (·.2))->AW γ cs us.toList->(∀u∈us.toList,u.oneCell'=true)->
  ∃Dk,Instr.fill place us parts=some Dk/\AW γ GB Dk.toList/\∀u∈Dk.toList,u.oneCell'=true
 |[],as,parts,cs,us,GB,h,hl,hp,ha,hr,h1=>by
  have:parts=[]:=by simpa using hp
  subst this;simp only[List.zip_nil_left,Br] at h;cases h;exact⟨us,rfl,hr,h1⟩
 |(off,size)::places,[],parts,cs,us,GB,h,hl,hp,ha,hr,h1=>by simp at hl
 |(off,size)::places,a::as,[],cs,us,GB,h,hl,hp,ha,hr,h1=>by simp at hp
 |(off,size)::places,a::as,(i,v)::parts,cs,us,GB,h,hl,hp,ha,hr,h1=>by
  simp only[aM1,Br] at h;split at h
  .rename_i hc;obtain⟨n,m,l⟩:=hc;simp only[A9,Ex] at hp;obtain⟨_,_,e,fo,ŗ⟩:=ha.LM;simp only[A9,Ex] at e;obtain⟨k,j⟩:=e;subst k;subst j;obtain⟨b,f⟩:=Hc fo Ab;have KW:v.cells.size=size:=by have:=b.length;simp at this;omega
   have YR:us.size=cs.length:=by have:=hr.length;simpa using this
   have hf:=NC v.cells.toList off 0 us (by simp[KW];omega);obtain⟨Dk,d,r2,c⟩:=VT (place:=place) (us:=(us.toList.take off++v.cells.toList++us.toList.drop (off+size)).toArray) h (by simpa using hl) hp.2 ŗ
    (by simpa using((hr.take off).append b).append (hr.drop (off+size)))
    (λu hu=>by
     simp only[Ap] at hu;rcases hu with(hu|hu)|hu
     .exact h1 u (A0 hu)
     .exact f u hu
     .exact h1 u (Bu hu))
   refine⟨Dk,?_,r2,c⟩;rw[Instr.fill];simp only[hp.1];rw[Ad (by simp[KW];omega)];rw[<-d];congr 1
   have g:v.cells.toList.length=size:=by simpa using KW
   rw[<-aM2,aIR,hf];simp[g]
  .cases h
def Yc{v:Value}{a:Aa}(h:Ks v=some a):AW γ a.cells v.cells.toList/\∀u∈v.cells.toList,u.oneCell'=true:=by
 have hr:=E1 (γ:=γ) h;unfold Ks at h;split at h
 .rename_i cs;cases hs:Lw cs.toList with
  |none=>rw[hs] at h;cases h
  |some as=>rw[hs] at h;cases h;exact ML hs
 .refine Hc hr ?_;unfold ON at h;split at h<;>first|(cases h;simp[Aa.cells];done)|skip
  .split at h;.cases h;simp[Aa.cells]
   .cases h
  .cases h
def Ok{t:TypeId}{fs:Array Field}(hu:P.underlying t=some (.struct fs)){place:Nat->Option (Nat×Nat)}(rP:∀(i:Nat) (f:Field) (n:Nat),fs[i]?=some f->BO P f.type=some n->place i=some (f.offset,n)):
  ∀{parts:List (Nat×Operand)} {ps:List (Nat×Nat)},Jv P t parts=some ps->parts.map (λp=>place p.1)=ps.map some
 |[],ps,h=>by cases h;rfl
 |(i,x)::rest,ps,h=>by
  simp only[Jv,hu] at h;split at h
  .rename_i f hf;split at h;.rename_i n r h1 h2;cases h;simp[rP i f n hf h1,Ok hu rP h2]
   .cases h
  .cases h
def OW{t e:TypeId}{len n:Nat}(hu:P.underlying t=some (.array len e))(hn:BO P e=some n):
  ∀{parts:List (Nat×Operand)} {ps:List (Nat×Nat)},Jv P t parts=some ps->parts.map (λp=>some (p.1*n,n))=ps.map some
 |[],ps,h=>by cases h;rfl
 |(i,x)::rest,ps,h=>by
  simp only[Jv,hu] at h;split at h
  .split at h;.rename_i n' r h1 h2;cases h;rw[hn] at h1;cases h1;simp[OW hu hn h2]
   .cases h
  .cases h
def T6:∀(fs:List Field),(fs.all λf=>(BO P f.type).isSome)=true->∃places,fs.mapM (λf=>(P.info? f.type).map λi=>(f.offset,i.size))=some places/\
  ∀(i:Nat) (f:Field) (n:Nat),fs[i]?=some f->BO P f.type=some n->places[i]?=some (f.offset,n)
 |[],_=>⟨[],rfl,Ax⟩
 |f::fs,h=>by
  simp only[Z6,AN] at h;obtain⟨rest,h1,h2⟩:=T6 fs h.2;cases hi:P.info? f.type with
  |none=>simp[BO,hi] at h
  |some b=>
   refine⟨(f.offset,b.size)::rest,by simp[hi,h1],λi g n hg hn=>?_⟩;cases i with
   |zero=>simp at hg;subst hg;simp[BO,hi] at hn;simp[hn]
   |succ i=>simpa using h2 i g n (by simpa using hg) hn
def zL{t:TypeId}{z:Aa}{parts:Array (Nat×Operand)}{ps:List (Nat×Nat)}{O:Operand->Value}(hz:GD P t=some z)(hp:Jv P t parts.toList=some ps)(hb:Vg P t=true){as:List Aa}
  (ha:AW γ as ((parts.toList.map (·.2)).map O)) {u:Aa} (h:Az (.B6 z.cells ps) as=some u):∃v,(Instr.build t (parts.map λ(i,x)=>(i,O x))).run P w= .ok v w/\BF γ u v:=by
 simp only[Az] at h;split at h
 .rename_i hl;cases hf:Br z.cells (ps.zip as) with
  |none=>rw[hf] at h;cases h
  |some cs=>
   rw[hf] at h;cases h;unfold GD at hz;cases hi:P.info? t with
   |none=>rw[hi] at hz;cases hz
   |some d=>
    cases X9:d.zero with
    |none=>rw[hi] at hz;simp[X9] at hz
    |some k=>
     rw[hi] at hz;simp only[Cm,X9] at hz;obtain⟨c,z2⟩:=Yc (γ:=γ) hz;have hparts:((parts.map λ(i,x)=>(i,O x)).toList.map (·.2))=(parts.toList.map (·.2)).map O:=Ax;unfold Vg at hb;split at hb
     .rename_i fs hu;obtain⟨places,j,g⟩:=T6 fs.toList hb;obtain⟨Dk,f1,f2,f3⟩:=VT (place:=λi=>places.toArray[i]?) (parts:=(parts.map λ(i,x)=>(i,O x)).toList) hf hl
       (by have:=Ok hu (place:=λi=>places.toArray[i]?) (λi f n h1 h2=>by simpa using g i f n (by simpa using h1) h2) hp;rw[<-this];simp) (by rw[hparts];exact ha) c z2
      exact⟨.agg Dk,run_build w t _ _ (by unfold Program.built;simp only[hi,hu,X9,j];exact f1),Dk,rfl,f2,f3⟩
     .rename_i len e hu;cases he:P.info? e with
      |none=>simp[BO,he] at hb
      |some b=>
       obtain⟨Dk,f1,f2,f3⟩:=VT (place:=λi=>some (i*b.size,b.size)) (parts:=(parts.map λ(i,x)=>(i,O x)).toList) hf hl
        (by have:=OW hu (n:=b.size) (by simp[BO,he]) hp;rw[<-this];simp) (by rw[hparts];exact ha) c z2
       exact⟨.agg Dk,run_build w t _ _ (by unfold Program.built;simp only[hi,hu,X9,he];exact f1),Dk,rfl,f2,f3⟩
     .cases hb
 .cases h
end
end Go.Am
end
section
namespace Go.Am
open Go
def X3.still:X3->Bool
 | .append _ _| .Ch _| .H5 _| .s2b| .X8=>false
 |_=>true
def Hd{o:gw}{dst:Option Nat}{x:Option (List Aa)}{r:Eg}(h:Tc o dst x=some r):∃args,x=some args/\r= .mem o args dst:=by
 unfold Tc at h;split at h;.cases h;exact⟨_,rfl,rfl⟩
 .cases h
def KD{o:gw}{dst:Option Nat}{x:Option (List Aa)}{p:X3}{args:List Aa}{d:Option Nat}{BK:Bool}{b:Option (Nat×Aa)}:¬Tc o dst x=some (.op p args d BK b):=λh=>by obtain⟨_,_,e⟩:=Hd h;cases e
def DC{p:X3}{dst:Option Nat}{x:Option (List Aa)}{r:Eg}(h:Tb p dst x=some r):∃args,x=some args/\r= .op p args dst false none:=by
 cases x with
 |none=>cases h
 |some args=>cases h;exact⟨args,rfl,rfl⟩
section
variable{C:Fv}{γ0 γ:Gh}{w0 w:World}{Z:Nat->Nat}{U:BG}{h:Ai}{a:Act}{fid:FuncId}{ops:List Oper}
def HK(P:Program)(γ:Gh)(a:Act)(o:Oper)(w:World)(p:X3)(args:List Aa):Prop:=
 ∀u,Az p args=some u->∃v,(execOp a.eval o).run P w= .ok (.value v) w/\BF γ u v
def Et{P:Program}{s:Sem Value}{v:Value}(hs:s.run P w= .ok v w):(do pure (Next.value (<-s)):Sem Next).run P w= .ok (.value v) w:=by simp[hs]
def mK{o:Oper}{c x y:Operand}(ho:o.op= .pick c x y)(hr:CX C γ0 w0 γ Z U h a w){args:List Aa}(ha:Bm C U [c,x,y]=some args):HK C.P γ a o w .pick args:=by
 intro u hu;simp only[Az] at hu;split at hu;.rename_i b p q;cases hu;obtain⟨_,_,_,e,h1,h2,d⟩:=(DB hr ha).YW;simp only[A9,Dw,Ex] at e;obtain⟨i,g,f,_⟩:=e;rw[<-i] at h1;rw[<-g] at h2;rw[<-f] at d;refine⟨if b then a.eval x else a.eval y,?_,by cases b<;>simpa⟩;simp[execOp,ho,RN h1,asBool]
 .cases hu
def zM{o:Oper}{op:BinOp}{t:TypeId}{x y:Operand}{p:X3}(hp:PR C.P op t=some p)(he:execOp a.eval o=(do pure (Next.value (<-(do eqGuard op t x y (a.eval x) (a.eval y);binOp op t (a.eval x) (a.eval y):Sem Value)))))
  (hr:CX C γ0 w0 γ Z U h a w) {args:List Aa} (ha:Bm C U [x,y]=some args):HK C.P γ a o w p args:=by
 intro u hu;obtain⟨v,p1,p2⟩:=fQ (w:=w) hp x y (DB hr ha) hu;exact⟨v,by rw[he];exact Et p1,p2⟩
def Gn(hr:CX C γ0 w0 γ Z U h a w){x:Operand}{args:List Aa}(ha:Bm C U [x]=some args):∃u,args=[u]/\BF γ u (a.eval x):=by
 have h1:=DB hr ha;cases args with
 |nil=>cases h1
 |cons u us=>
  obtain⟨_,_,e,h2,b⟩:=h1.LM;cases e;cases us with
  |nil=>exact⟨u,rfl,h2⟩
  |cons _ _=>obtain⟨_,_,e,_⟩:=b.LM;cases e
def EO(hr:CX C γ0 w0 γ Z U h a w){x y:Operand}{args:List Aa}(ha:Bm C U [x,y]=some args):∃u v,args=[u,v]/\BF γ u (a.eval x)/\BF γ v (a.eval y):=by
 have h1:=DB hr ha;cases args with
 |nil=>cases h1
 |cons u us=>
  obtain⟨_,_,e,h2,b⟩:=h1.LM;cases e;cases us with
  |nil=>cases b
  |cons v vs=>
   obtain⟨_,_,e,d,c⟩:=b.LM;cases e;cases vs with
   |nil=>exact⟨u,v,rfl,h2,d⟩
   |cons _ _=>obtain⟨_,_,e,_⟩:=c.LM;cases e
def jm{o:Oper}{op:UnOp}{x:Operand}(he:execOp a.eval o=(do pure (Next.value (<-Op.unary op (a.eval x)))))
  (hr:CX C γ0 w0 γ Z U h a w) {args:List Aa} (ha:Bm C U [x]=some args):HK C.P γ a o w (.un op) args:=by
 intro u hu;obtain⟨v,rfl,h1⟩:=Gn hr ha;simp only[Az] at hu;obtain⟨r,p1,p2⟩:=Ŗ (P:=C.P) (w:=w) h1 hu;exact⟨r,by rw[he];exact Et p1,p2⟩
def mL{o:Oper}{src dst:TypeId}{k l:IntKind}{x:Operand}(hs:C.P.underlying src=some (.int l))(hd:C.P.underlying dst=some (.int k))(he:execOp a.eval o=(do pure (Next.value (<-convert src dst (a.eval x)))))
  (hr:CX C γ0 w0 γ Z U h a w) {args:List Aa} (ha:Bm C U [x]=some args):HK C.P γ a o w (.conv k) args:=by
 intro u hu;obtain⟨v,rfl,h1⟩:=Gn hr ha;simp only[Az] at hu;split at hu;.rename_i e;cases e;cases hu;rw[D7 h1] at he;exact⟨_,by rw[he];exact Et (aE hs hd),rfl⟩
 .cases hu
def zN{o:Oper}{src dst:TypeId}{l:IntKind}{x:Operand}(hs:C.P.underlying src=some (.int l))(hd:C.P.underlying dst=some .string)(he:execOp a.eval o=(do pure (Next.value (<-convert src dst (a.eval x)))))
  (hr:CX C γ0 w0 γ Z U h a w) {args:List Aa} (ha:Bm C U [x]=some args):HK C.P γ a o w .i2s args:=by
 intro u hu;obtain⟨v,rfl,h1⟩:=Gn hr ha;simp only[Az] at hu;split at hu;.rename_i e;cases e;cases hu;rw[D7 h1] at he;exact⟨_,by rw[he];exact Et (aF hs hd),rfl⟩
 .cases hu
def fS{o:Oper}{t:TypeId}{x:Operand}{f off:Nat}{sh:Option Nat}(hf:H8 C.P t f=some (off,sh))(he:execOp a.eval o=(do pure (Next.value (<-Instr.field t (a.eval x) f))))
  (hr:CX C γ0 w0 γ Z U h a w) {args:List Aa} (ha:Bm C U [x]=some args):HK C.P γ a o w (.part off sh) args:=by
 intro u hu;obtain⟨v,rfl,h1⟩:=Gn hr ha;simp only[Az] at hu;split at hu;.rename_i e;cases e;obtain⟨r,p1,p2⟩:=zJ (w:=w) hf h1 hu;exact⟨r,by rw[he];exact Et p1,p2⟩
 .cases hu
def UN{o:Oper}{t:TypeId}{x:Operand}{f off:Nat}{sh:Option Nat}(hf:H8 C.P t f=some (off,sh))(he:execOp a.eval o=(do pure (Next.value (<-Instr.fieldAt t (a.eval x) f))))
  (hr:CX C γ0 w0 γ Z U h a w) {args:List Aa} (ha:Bm C U [x]=some args):HK C.P γ a o w (.Fb off) args:=by
 intro u hu;obtain⟨v,rfl,h1⟩:=Gn hr ha;simp only[Az] at hu;obtain⟨r,p1,p2⟩:=fR (w:=w) hf h1 hu;exact⟨r,by rw[he];exact Et p1,p2⟩
def zO{o:Oper}{x:Operand}{i:Nat}(he:execOp a.eval o=(do pure (Next.value (<-Instr.extract (a.eval x) i))))
  (hr:CX C γ0 w0 γ Z U h a w) {args:List Aa} (ha:Bm C U [x]=some args):HK C.P γ a o w (.ext i) args:=by
 intro u hu;obtain⟨v,rfl,h1⟩:=Gn hr ha;simp only[Az] at hu;split at hu;.rename_i e;cases e;obtain⟨r,p1,p2⟩:=ya (P:=C.P) (w:=w) h1 hu;exact⟨r,by rw[he];exact Et p1,p2⟩
 .cases hu
def UO{o:Oper}{t:TypeId}{x y:Operand}(ht:C.P.underlying t=some .string)(he:execOp a.eval o=(do pure (Next.value (<-Instr.index t (a.eval x) (a.eval y)))))
  (hr:CX C γ0 w0 γ Z U h a w) {args:List Aa} (ha:Bm C U [x,y]=some args):HK C.P γ a o w .Rz args:=by
 intro u hu;obtain⟨p,q,rfl,h1,h2⟩:=EO hr ha;simp only[Az] at hu;split at hu
 .rename_i e;cases e;split at hu
  .rename_i s k i h0;cases hb:s[i.toNat]? with
   |none=>rw[hb] at hu;cases hu
   |some b=>rw[hb] at hu;cases hu;rw[NA h1,D7 h2] at he;exact⟨_,by rw[he];exact Et (Yb ht h0 hb),rfl⟩
  .cases hu
 .cases hu
def UP{o:Oper}{t e:TypeId}{len n:Nat}{sh:Option Nat}{x y:Operand}(ht:C.P.underlying t=some (.array len e))(hn:BO C.P e=some n)(lP:EW C.P e=some sh)(he:execOp a.eval o=(do pure (Next.value (<-Instr.index t (a.eval x) (a.eval y)))))
  (hr:CX C γ0 w0 γ Z U h a w) {args:List Aa} (ha:Bm C U [x,y]=some args):HK C.P γ a o w (.ŋ len n sh) args:=by
 intro u hu;obtain⟨p,q,rfl,h1,h2⟩:=EO hr ha;simp only[Az] at hu;split at hu
 .rename_i e;cases e;rename_i cs k i;cases hb:LH i len with
  |none=>rw[hb] at hu;cases hu
  |some j=>rw[hb] at hu;simp only[Cm] at hu;rw[D7 h2] at he;obtain⟨r,p1,p2⟩:=Ya (w:=w) (k:=k) ht hn lP h1 hb hu;exact⟨r,by rw[he];exact Et p1,p2⟩
 .cases hu
def VU{o:Oper}{t e:TypeId}{n:Nat}{x y:Operand}(ht:C.P.underlying t=some (.slice e))(hn:BO C.P e=some n)(he:execOp a.eval o=(do pure (Next.value (<-Instr.indexAt t (a.eval x) (a.eval y)))))
  (hr:CX C γ0 w0 γ Z U h a w) {args:List Aa} (ha:Bm C U [x,y]=some args):HK C.P γ a o w (.FA n) args:=by
 intro u hu;obtain⟨p,q,rfl,h1,h2⟩:=EO hr ha;simp only[Az] at hu;split at hu;.rename_i e;cases e;rename_i k i;rw[D7 h2] at he;obtain⟨r,p1,p2⟩:=mI (w:=w) (k:=k) ht hn h1 hu;exact⟨r,by rw[he];exact Et p1,p2⟩
 .cases hu
def Yd{o:Oper}{t e:TypeId}{len n:Nat}{x y:Operand}(ht:C.P.underlying t=some (.array len e))(hn:BO C.P e=some n)(he:execOp a.eval o=(do pure (Next.value (<-Instr.indexAt t (a.eval x) (a.eval y)))))
  (hr:CX C γ0 w0 γ Z U h a w) {args:List Aa} (ha:Bm C U [x,y]=some args):HK C.P γ a o w (.T1 len n) args:=by
 intro u hu;obtain⟨p,q,rfl,h1,h2⟩:=EO hr ha;simp only[Az] at hu;split at hu
 .rename_i e;cases e;rename_i k i;cases hb:LH i len with
  |none=>rw[hb] at hu;cases hu
  |some j=>rw[hb] at hu;simp only[Cm] at hu;rw[D7 h2] at he;obtain⟨r,p1,p2⟩:=zK (w:=w) (k:=k) ht hn h1 hb hu;exact⟨r,by rw[he];exact Et p1,p2⟩
 .cases hu
def T7{o:Oper}{t:TypeId}{x:Operand}{lo hi:Option Operand}{isStr:Bool}{size:Nat}(ht:if isStr=true then C.P.underlying t=some .string else∃e,C.P.underlying t=some (.slice e)/\BO C.P e=some size)
  (he:execOp a.eval o=(do pure (Next.value (<-Instr.sliceAt t (a.eval x) (lo.map a.eval) (hi.map a.eval) none))))
  (hr:CX C γ0 w0 γ Z U h a w) {args:List Aa} (ha:Bm C U (x::(lo.toList++hi.toList))=some args):HK C.P γ a o w (.OM size isStr lo.isSome hi.isSome) args:=by
 intro u hu;have h1:=DB hr ha;cases args with
 |nil=>cases h1
 |cons s as=>obtain⟨_,_,e,h2,b⟩:=h1.LM;cases e;simp only[Az] at hu;obtain⟨r,p1,p2⟩:=yb (P:=C.P) (w:=w) (lo:=lo.map a.eval) (hi:=hi.map a.eval) ht h2 (by cases lo<;>cases hi<;>simpa using b) (by simpa using hu);exact⟨r,by rw[he];exact Et p1,p2⟩
def fU{o:Oper}{t:TypeId}{parts:Array (Nat×Operand)}{z:Aa}{ps:List (Nat×Nat)}(hz:GD C.P t=some z)(hp:Jv C.P t parts.toList=some ps)(hb:Vg C.P t=true)
  (he:execOp a.eval o=(do pure (Next.value (<-Instr.build t (parts.map λ(i,x)=>(i,a.eval x))))))
  (hr:CX C γ0 w0 γ Z U h a w) {args:List Aa} (ha:Bm C U (parts.toList.map (·.2))=some args):HK C.P γ a o w (.B6 z.cells ps) args:=by
 intro u hu;obtain⟨r,p1,p2⟩:=zL (w:=w) hz hp hb (DB hr ha) hu;exact⟨r,by rw[he];exact Et p1,p2⟩
def aH{o:Oper}{x:Operand}(ho:o.op= .nilCheck x)(hr:CX C γ0 w0 γ Z U h a w){args:List Aa}(ha:Bm C U [x]=some args):HK C.P γ a o w .LF args:=by
 intro u hu;obtain⟨v,rfl,h1⟩:=Gn hr ha;simp only[Az,fG] at hu;split at hu;.rename_i p;cases hu;obtain⟨i,k⟩:=p;obtain⟨b,hb,hv⟩:=h1;exact⟨_,by simp only[execOp,ho,hv];rfl,b,hb,rfl⟩
 .cases hu;obtain⟨b,k,hv,hm⟩:=h1;exact⟨_,by simp only[execOp,ho,hv];rfl,b,k,rfl,hm⟩
 .cases hu;obtain⟨fs,cs,hv,p,q⟩:=h1;exact⟨_,by simp only[execOp,ho,hv];rfl,fs,cs,rfl,p,q⟩
 .cases hu
def MM:∀{xs:List Operand} {us:List Aa},Bm C U xs=some us->us.length=xs.length
 |[],us,h=>by cases h;rfl
 |x::xs,us,h=>by
  unfold Bm at h;split at h;.rename_i u Dk h1 h2;cases h;simp[MM h2]
  .cases h
def ND{P:Program}{o:Oper}{c:Call}{b:Builtin}{s:Sem Value}(ho:o.op= .call c)(hc:c.callee= .builtin b)(hs:builtin b c.argTypes o.type (c.args.map λ| .const _=>true|_=>false) (c.args.map a.eval)=(do pure (Next.value (<-s)))){v:Value}
  (hv:s.run P w= .ok v w):(execOp a.eval o).run P w= .ok (.value v) w:=by
 have:execOp a.eval o=(do pure (Next.value (<-s))):=by rw[<-hs];simp only[execOp,ho,resolve,hc];rfl
 rw[this];exact Et hv
def YY{o:Oper}{c:Call}{t:TypeId}{isStr:Bool}(ho:o.op= .call c)(hc:c.callee= .builtin .len)(h0:c.argTypes[0]?=some t)(ht:if isStr=true then C.P.underlying t=some .string else∃e,C.P.underlying t=some (.slice e))
  (hr:CX C γ0 w0 γ Z U h a w) {args:List Aa} (ha:Bm C U c.args.toList=some args):HK C.P γ a o w (.len isStr) args:=by
 intro u hu;simp only[Az] at hu;split at hu
 .rename_i s;have hl:=MM ha;obtain⟨x,hx⟩:∃x,c.args.toList=[x]:=aDE.1 hl.symm;rw[hx] at ha;obtain⟨_,e,h1⟩:=Gn hr ha;cases e;obtain⟨r,p1,p2⟩:=x_ (P:=C.P) (w:=w) (ty:=o.type) ht h0 h1 hu;have e:c.args.map a.eval=#[a.eval x]:=by apply Ge;simp[hx]
  exact⟨r,ND ho hc (s:=Builtin.len_ c.argTypes o.type #[a.eval x]) (by rw[e];rfl) p1,p2⟩
 .cases hu
def RO{o:Oper}{c:Call}{isMax:Bool}(ho:o.op= .call c)(hc:c.callee= .builtin (if isMax then .max else .min))(hr:CX C γ0 w0 γ Z U h a w){args:List Aa}(ha:Bm C U c.args.toList=some args):HK C.P γ a o w (.K4 isMax) args:=by
 intro u hu;simp only[Az] at hu;split at hu
 .rename_i k p l q;split at hu
  .rename_i hk;subst hk;cases hu;have hl:=MM ha;obtain⟨x,y,hx⟩:∃x y,c.args.toList=[x,y]:=by
    cases hq:c.args.toList with
    |nil=>rw[hq] at hl;simp at hl
    |cons x xs=>cases xs with
     |nil=>rw[hq] at hl;simp at hl
     |cons y ys=>cases ys with
      |nil=>exact⟨x,y,rfl⟩
      |cons _ _=>rw[hq] at hl;simp at hl
   rw[hx] at ha;obtain⟨_,_,e,h1,h2⟩:=EO hr ha;cases e;have e:c.args.map a.eval=#[.int k p,.int k q]:=by apply Ge;simp[hx,D7 h1,D7 h2]
   cases isMax with
   |true=>exact⟨_,ND ho hc (s:=Builtin.max_ c.argTypes o.type #[.int k p,.int k q]) (by rw[e];rfl) (by simp[Builtin.max_,Builtin.max2]),rfl⟩
   |false=>exact⟨_,ND ho hc (s:=Builtin.min_ c.argTypes o.type #[.int k p,.int k q]) (by rw[e];rfl) (by simp[Builtin.min_,Builtin.min2]),rfl⟩
  .cases hu
 .cases hu
end
end Go.Am
end
section
namespace Go.Am
open Go
section
variable{C:Fv}{γ0 γ:Gh}{w0 w:World}{Z:Nat->Nat}{U:BG}{h:Ai}{a:Act}{fid:FuncId}{ops:List Oper}
def Mm{x:Operand}{d:Nat}{take:Bool}{r:Eg}(h:J6 C U x d take=some r):∃ws,r= .pure ws:=by
 unfold J6 at h;split at h;.cases h;exact⟨_,rfl⟩
 .cases h;exact⟨_,rfl⟩
 .split at h;.cases h;exact⟨_,rfl⟩
  .cases hc:H9 _ with
   |none=>rw[hc] at h;cases h
   |some s=>rw[hc] at h;cases h;exact⟨_,rfl⟩
 .cases hc:H9 _ with
  |none=>rw[hc] at h;cases h
  |some s=>rw[hc] at h;cases h;exact⟨_,rfl⟩
 .cases h
def YZ{t:TypeId}{v:Aa}{d:Nat}{p:X3}{args:List Aa}{dst:Option Nat}{BK:Bool}{b:Option (Nat×Aa)}:T2 C fid t v d≠some (.op p args dst BK b):=by
 unfold T2;intro h;split at h;.cases h
 .split at h;.cases h
  .split at h<;>cases h
def mM{t:TypeId}{x:Operand}{d:Nat}{take:Bool}{p:X3}{args:List Aa}{dst:Option Nat}{BK:Bool}{b:Option (Nat×Aa)}:K6 C U t x d take≠some (.op p args dst BK b):=by
 unfold K6;intro h;split at h;.cases h
 .split at h;.simp only at h;split at h<;>cases h
  .cases h
 .split at h<;>cases h
 .cases h
def fV{t:TypeId}{x y:Operand}{p:X3}{args:List Aa}{dst:Option Nat}{BK:Bool}{b:Option (Nat×Aa)}:IZ C U t x y≠some (.op p args dst BK b):=by
 unfold IZ;intro h;split at h;.cases h
 .split at h<;>cases h
 .cases h
def zP{o:Oper}{p:X3}{args:List Aa}{dst:Option Nat}{BK:Bool}{j:Option (Nat×Aa)}(hc:FL C fid ops U o=some (.op p args dst BK j))(IK:p.still=true)(hr:CX C γ0 w0 γ Z U h a w):
  HK C.P γ a o w p args/\dst=o.dst/\BK=false/\j=none:=by
 unfold FL at hc
 split at hc
 .split at hc
  .obtain⟨ws,e⟩:=Mm hc;cases e
  .cases hc
 .split at hc
  .obtain⟨ws,e⟩:=Mm hc;cases e
  .cases hc
 .rename_i c x y ho
  split at hc
  .obtain⟨ws,e⟩:=Mm hc;cases e
  .obtain⟨ws,e⟩:=Mm hc;cases e
  .obtain⟨as,g,b⟩:=DC hc
   cases b
   exact⟨mK ho hr g,rfl,rfl,rfl⟩
 .split at hc
  .split at hc
   .split at hc<;>cases hc
   .exact absurd hc YZ
  .cases hc
 .split at hc
  .exact absurd hc YZ
  .cases hc
 .rename_i t parts ho
  split at hc
  .rename_i z ps hz hp
   split at hc
   .rename_i hb
    obtain⟨as,g,b⟩:=DC hc
    cases b
    exact⟨fU hz hp hb (by simp[execOp,ho]) hr g,rfl,rfl,rfl⟩
   .cases hc
  .cases hc
 .split at hc
  .split at hc
   .split at hc
    .split at hc
     .cases hc;cases IK
     .cases hq:Bm C U _ with
      |none=>rw[hq] at hc;cases hc
      |some q=>rw[hq] at hc;cases hc;cases IK
    .cases hc
   .cases hc
  .cases hc
 .split at hc
  .exact absurd hc mM
  .cases hc
 .split at hc
  .exact absurd hc fV
  .cases hc
 .rename_i x ho
  split at hc
  .cases hc
  .cases hc
  .obtain⟨as,g,b⟩:=DC hc
   cases b
   exact⟨aH ho hr g,rfl,rfl,rfl⟩
 .rename_i op t x y k ho
  split at hc
  .rename_i q hq
   obtain⟨as,g,b⟩:=DC hc
   cases b
   exact⟨zM hq (by simp[execOp,ho]) hr g,rfl,rfl,rfl⟩
  .cases hc
 .rename_i op t x ho
  obtain⟨as,g,b⟩:=DC hc
  cases b
  exact⟨jm (by simp[execOp,ho]) hr g,rfl,rfl,rfl⟩
 .rename_i src aIW x ho
  split at hc
  .cases hq:Ez C U x with
   |none=>rw[hq] at hc;cases hc
   |some q=>rw[hq] at hc;cases hc
  .split at hc
   .cases hq:Ez C U x with
    |none=>rw[hq] at hc;cases hc
    |some q=>rw[hq] at hc;cases hc
   .obtain⟨as,g,b⟩:=DC hc
    cases b;cases IK
  .rename_i q RP eV hq
   obtain⟨as,g,b⟩:=DC hc
   cases b
   refine⟨?_,rfl,rfl,rfl⟩
   unfold VI at hq
   split at hq
   .rename_i hs hd
    cases hq
    exact mL hs hd (by simp[execOp,ho]) hr g
   .rename_i hs hd
    cases hq
    exact zN hs hd (by simp[execOp,ho]) hr g
   .cases hq
   .split at hq
    .cases hq;cases IK
    .cases hq
   .split at hq
    .cases hq;cases IK
    .cases hq
   .cases hq
  .cases hc
 .split at hc
  .cases hc
  .cases hc
 .cases hc
 .split at hc
  .split at hc<;>cases hc
  .cases hc
 .split at hc
  .split at hc<;>cases hc
  .cases hc
 .split at hc
  .split at hc<;>cases hc
  .cases hc
 .split at hc
  .split at hc<;>cases hc
  .cases hc
 .split at hc
  .split at hc
   .exact absurd hc KD
   .cases hc
  .cases hc
 .split at hc
  .cases hc
  .exact absurd hc KD
  .cases hc
 .split at hc
  .split at hc<;>first|exact absurd hc KD|cases hc
  .cases hc
 .split at hc
  .exact absurd hc KD
  .cases hc
 .rename_i t x lo hi ho
  split at hc
  .rename_i ht
   obtain⟨as,g,b⟩:=DC hc
   cases b
   exact⟨T7 (isStr:=true) ht (by simp[execOp,ho]) hr g,rfl,rfl,rfl⟩
  .rename_i e ht
   split at hc
   .rename_i n hn
    split at hc
    .exact absurd hc KD
    .obtain⟨as,g,b⟩:=DC hc
     cases b
     exact⟨T7 (isStr:=false) ⟨e,ht,hn⟩ (by simp[execOp,ho]) hr g,rfl,rfl,rfl⟩
   .cases hc
  .cases hc
 .rename_i t x f ho
  split at hc
  .rename_i off sh d hf hd
   split at hc
   .cases hc
   .cases hc
   .obtain⟨as,g,b⟩:=DC hc
    cases b
    exact⟨UN hf (by simp[execOp,ho]) hr g,hd.symm,rfl,rfl⟩
  .cases hc
 .rename_i t x f ho
  split at hc
  .rename_i off sh hf
   obtain⟨as,g,b⟩:=DC hc
   cases b
   exact⟨fS hf (by simp[execOp,ho]) hr g,rfl,rfl,rfl⟩
  .cases hc
 .rename_i t x i ho
  split at hc
  .rename_i e ht
   split at hc
   .rename_i n hn
    obtain⟨as,g,b⟩:=DC hc
    cases b
    exact⟨VU ht hn (by simp[execOp,ho]) hr g,rfl,rfl,rfl⟩
   .cases hc
  .rename_i len e ht
   split at hc
   .rename_i n hn
    split at hc
    .cases hc
    .obtain⟨as,g,b⟩:=DC hc
     cases b
     exact⟨Yd ht hn (by simp[execOp,ho]) hr g,rfl,rfl,rfl⟩
   .cases hc
  .cases hc
 .rename_i t x i ho
  split at hc
  .rename_i ht
   obtain⟨as,g,b⟩:=DC hc
   cases b
   exact⟨UO ht (by simp[execOp,ho]) hr g,rfl,rfl,rfl⟩
  .rename_i len e ht
   split at hc
   .rename_i n sh hn lP
    obtain⟨as,g,b⟩:=DC hc
    cases b
    exact⟨UP ht hn lP (by simp[execOp,ho]) hr g,rfl,rfl,rfl⟩
   .cases hc
  .cases hc
 .rename_i x i ho
  obtain⟨as,g,b⟩:=DC hc
  cases b
  exact⟨zO (by simp[execOp,ho]) hr g,rfl,rfl,rfl⟩
 .rename_i c ho
  unfold QN at hc
  split at hc
  .rename_i hcl
   split at hc
   .rename_i t h0
    split at hc
    .rename_i ht
     obtain⟨as,g,b⟩:=DC hc
     cases b
     exact⟨YY (isStr:=true) ho hcl h0 ht hr g,rfl,rfl,rfl⟩
    .rename_i e ht
     obtain⟨as,g,b⟩:=DC hc
     cases b
     exact⟨YY (isStr:=false) ho hcl h0 ⟨e,ht⟩ hr g,rfl,rfl,rfl⟩
    .cases hc
   .cases hc
  .split at hc
   .split at hc
    all_goals first
     |(cases hc;done)
     | (split at hc
        . split at hc
          . split at hc
            . split at hc
              . split at hc
                . cases hc
                . split at hc
                  . cases hc
                  . cases hc; cases IK
              . split at hc <;> cases hc
            . cases hc
          . cases hc
        . cases hc)
   .cases hc
  .split at hc
   .split at hc
    all_goals first
     |(cases hc;done)
     | (split at hc
        . exact absurd hc KD
        . cases hc)
   .cases hc
  .split at hc
   .split at hc
    .split at hc
     .exact absurd hc KD
     .cases hc
    .cases hc
   .cases hc
  .rename_i hcl
   split at hc
   .obtain⟨as,g,b⟩:=DC hc
    cases b
    exact⟨RO (isMax:=true) ho hcl hr g,rfl,rfl,rfl⟩
   .cases hc
  .rename_i hcl
   split at hc
   .obtain⟨as,g,b⟩:=DC hc
    cases b
    exact⟨RO (isMax:=false) ho hcl hr g,rfl,rfl,rfl⟩
   .cases hc
  .split at hc
   .split at hc
    .split at hc
     .exact absurd hc KD
     .cases hc
    .cases hc
   split at hc
   .cases hq:Bm C U c.args.toList with
    |none=>rw[hq] at hc;cases hc
    |some q=>
     rw[hq] at hc
     simp only[By,Bx] at hc
     split at hc<;>cases hc
   .cases hc
  .split at hc<;>cases hc
  .cases hc
 .cases hc
end
end Go.Am
end
