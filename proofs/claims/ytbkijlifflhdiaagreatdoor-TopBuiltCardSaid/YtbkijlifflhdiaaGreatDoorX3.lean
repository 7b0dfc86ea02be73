/- Lemmas -/
import Derived.Test.YtbkijlifflhdiaaGreatDoorX2
import Derived.Laws.Slices
set_option linter.all false
section
namespace Go.Am
open Go
section
variable{P:Program}{γ:Gh}{w:World}
def PX{a:Bool}{v:Value}(h:Bz γ (.bool a) v):v= .bool a:=h
def Ea{k:IntKind}{a:Int}{v:Value}(h:Bz γ (.int k a) v):v= .int k a:=h
def MI{a:Aq}{v:Value}(h:Bz γ (.str a) v):v= .string ⟨⟨a⟩⟩:=h
def AS.yO{us:List Value}(h:AS γ [] us):us=[]:=h
def AS.KG{a:Aa}{l:List Aa}{us:List Value}(h:AS γ (a::l) us):∃u C6,us=u::C6/\Bz γ a u/\AS γ l C6:=h
def AS.one{a:Aa}{us:List Value}(h:AS γ [a] us):∃u,us=[u]/\Bz γ a u:=by obtain⟨u,C6,rfl,h1,h2⟩:=h;rw[h2.yO];exact⟨u,rfl,h1⟩
def AS.Xi{a b:Aa}{us:List Value}(h:AS γ [a,b] us):∃u v,us=[u,v]/\Bz γ a u/\Bz γ b v:=by obtain⟨u,C6,rfl,h1,h2⟩:=h;obtain⟨v,rfl,c⟩:=h2.one;exact⟨u,v,rfl,h1,c⟩
def AS.V4{a b c:Aa}{us:List Value}(h:AS γ [a,b,c] us):∃u v x,us=[u,v,x]/\Bz γ a u/\Bz γ b v/\Bz γ c x:=by obtain⟨u,C6,rfl,h1,h2⟩:=h;obtain⟨v,x,rfl,e,d⟩:=h2.Xi;exact⟨u,v,x,rfl,h1,e,d⟩
def Value.IP:Value->Bool
 | .bool _| .pointer _| .slice _ _ _| .func _ _ _| .nilFunc| .map _=>true
 |_=>false
def Rb{op:BinOp}{neg:Bool}(OD:(op= .eql/\neg=false)\/(op= .neq/\neg=true))(t:TypeId)(c b:Operand){x y:Value}(hx:Value.IP x=true)(hy:Value.IP y=true){e:Bool}
  (he:(Op.equal t x y).run P w= .ok e w):(do eqGuard op t c b x y;binOp op t x y:Sem Value).run P w= .ok (.bool (e != neg)) w:=by
 have hg:eqGuard op t c b x y=pure ():=by rcases OD with⟨rfl,_⟩|⟨rfl,_⟩<;>cases x<;>simp[Value.IP] at hx<;>rfl
 rw[hg];rcases OD with⟨rfl,rfl⟩|⟨rfl,rfl⟩
 .have hb:binOp .eql t x y=(do pure (.bool (<-Op.equal t x y))):=by cases x<;>simp[Value.IP] at hx<;>cases y<;>simp[Value.IP] at hy<;>rfl
  simp[hb,he]
 .have hb:binOp .neq t x y=(do pure (.bool (!(<-Op.equal t x y)))):=by cases x<;>simp[Value.IP] at hx<;>cases y<;>simp[Value.IP] at hy<;>rfl
  simp[hb,he]
def Y5{op:BinOp}{neg:Bool}(OD:(op= .eql/\neg=false)\/(op= .neq/\neg=true))(t:TypeId)(d c:Operand)(ht:P.underlying t=some .bool)(a b:Bool):
  (do eqGuard op t d c (.bool a) (.bool b);binOp op t (.bool a) (.bool b):Sem Value).run P w= .ok (.bool ((a==b) != neg)) w:=
 Rb OD t d c rfl rfl (run_equalIn_bool' w 9999 t a b ht)
def Sv{d:Nat}{t e:TypeId}(ht:P.underlying t=some (.pointer e))(hz:∃n,BJ P e=some (n+1)){a b:Aa}{x y:Value}(hx:Bz γ a x)(hy:Bz γ b y){r:Bool}(h:iB a b=some r):
  (Op.equalIn (d+1) t x y).run P w= .ok r w/\Value.IP x=true/\Value.IP y=true:=by
 obtain⟨n,hn⟩:=hz;unfold iB at h;split at h
 .rename_i q;cases h;rw[show x= .pointer none from hx];have:∃p,y= .pointer p/\p.isNone=q.isNone:=by
   cases q with
   |none=>exact⟨none,hy,rfl⟩
   |some p=>obtain⟨i,o⟩:=p;obtain⟨b,_,rfl⟩:=hy;exact⟨_,rfl,rfl⟩
  obtain⟨p,rfl,hp⟩:=this;exact⟨by simp[Op.equalIn,run_underlying ht,hp],rfl,rfl⟩
 .rename_i p;cases h;obtain⟨i,o⟩:=p;obtain⟨b,_,rfl⟩:=hx;rw[show y= .pointer none from hy];exact⟨by simp[Op.equalIn,run_underlying ht],rfl,rfl⟩
 .rename_i p q;split at h;.rename_i he;cases h;subst he;obtain⟨i,o⟩:=p;obtain⟨b,hb,rfl⟩:=hx;obtain⟨b',PR,rfl⟩:=hy;rw[hb] at PR;cases PR;exact⟨by simp[Op.equalIn,run_underlying ht,Dc hn,sameAddr],rfl,rfl⟩
  .cases h
 .cases h;rw[show x= .pointer none from hx];obtain⟨b,o,rfl,_⟩:=hy;exact⟨by simp[Op.equalIn,run_underlying ht],rfl,rfl⟩
 .cases h;rw[show y= .pointer none from hy];obtain⟨b,o,rfl,_⟩:=hx;exact⟨by simp[Op.equalIn,run_underlying ht],rfl,rfl⟩
 .cases h
def Ej{d:Nat}{t e:TypeId}(ht:P.underlying t=some (.slice e)){p q:Option Addr}{n c m k:Nat}(h:p=none\/q=none):
  (Op.equalIn (d+1) t (.slice p n c) (.slice q m k)).run P w= .ok (p.isNone&&q.isNone) w:=by
 cases p<;>cases q<;>simp at h<;>simp[Op.equalIn,run_underlying ht]
def KH{d:Nat}{t:TypeId}{a b:Array TypeId}{c:Bool}(ht:P.underlying t=some (.func a b c)){f:Fn}{x y:Array Value}:
  (Op.equalIn (d+1) t .nilFunc .nilFunc).run P w= .ok true w/\(Op.equalIn (d+1) t .nilFunc (.func f x y)).run P w= .ok false w/\(Op.equalIn (d+1) t (.func f x y) .nilFunc).run P w= .ok false w:=by
 refine⟨?_,?_,?_⟩<;>simp[Op.equalIn,run_underlying ht]
def J9{d:Nat}{t k e:TypeId}(ht:P.underlying t=some (.map k e)){p q:Option Nat}(h:p=none\/q=none):
  (Op.equalIn (d+1) t (.map p) (.map q)).run P w= .ok (p.isNone&&q.isNone) w:=by
 cases p<;>cases q<;>simp at h<;>simp[Op.equalIn,run_underlying ht]
def Sw{d:Nat}{t:TypeId}{k:NK}(ht:match k with| .sl=>∃e,P.underlying t=some (.slice e)| .fn=>∃a b c,P.underlying t=some (.func a b c)| .mp=>∃a b,P.underlying t=some (.map a b))
  {a b:Aa} {x y:Value} (hx:Bz γ a x) (hy:Bz γ b y) {r:Bool} (h:iC k a b=some r):
  (Op.equalIn (d+1) t x y).run P w= .ok r w/\Value.IP x=true/\Value.IP y=true:=by
 unfold iC at h;split at h;case h_1=>obtain⟨e,ht⟩:=ht;cases h;rw[show x= .slice none 0 0 from hx,show y= .slice none 0 0 from hy];exact⟨Ej ht (.inl rfl),rfl,rfl⟩
 case h_2=>obtain⟨e,ht⟩:=ht;cases h;rw[show x= .slice none 0 0 from hx];obtain⟨_,_,rfl,_⟩:=hy;exact⟨Ej ht (.inl rfl),rfl,rfl⟩
 case h_3=>obtain⟨e,ht⟩:=ht;cases h;rw[show y= .slice none 0 0 from hy];obtain⟨_,_,rfl,_⟩:=hx;exact⟨Ej ht (.inr rfl),rfl,rfl⟩
 case h_4=>obtain⟨e,ht⟩:=ht;cases h;rw[show x= .slice none 0 0 from hx];obtain⟨_,rfl⟩:=hy;exact⟨Ej ht (.inl rfl),rfl,rfl⟩
 case h_5=>obtain⟨e,ht⟩:=ht;cases h;rw[show y= .slice none 0 0 from hy];obtain⟨_,rfl⟩:=hx;exact⟨Ej ht (.inr rfl),rfl,rfl⟩
 case h_6=>obtain⟨e,ht⟩:=ht;cases h;rw[show x= .slice none 0 0 from hx];obtain⟨_,_,_,rfl,_⟩:=hy;exact⟨Ej ht (.inl rfl),rfl,rfl⟩
 case h_7=>obtain⟨e,ht⟩:=ht;cases h;rw[show y= .slice none 0 0 from hy];obtain⟨_,_,_,rfl,_⟩:=hx;exact⟨Ej ht (.inr rfl),rfl,rfl⟩
 case h_8=>obtain⟨_,_,_,ht⟩:=ht;cases h;rw[show x= .nilFunc from hx,show y= .nilFunc from hy];exact⟨(KH ht (f:= .func 0) (x:=#[]) (y:=#[])).1,rfl,rfl⟩
 case h_9=>obtain⟨_,_,_,ht⟩:=ht;cases h;rw[show x= .nilFunc from hx];obtain⟨_,_,rfl,_⟩:=hy;exact⟨(KH ht).2.1,rfl,rfl⟩
 case h_10=>obtain⟨_,_,_,ht⟩:=ht;cases h;rw[show y= .nilFunc from hy];obtain⟨_,_,rfl,_⟩:=hx;exact⟨(KH ht).2.2,rfl,rfl⟩
 case h_11=>
  rename_i q;obtain⟨_,_,ht⟩:=ht;cases h;rw[show x= .map none from hx];cases q with
  |none=>rw[show y= .map none from hy];exact⟨J9 ht (.inl rfl),rfl,rfl⟩
  |some id=>obtain⟨b,_,rfl⟩:=hy;exact⟨J9 ht (.inl rfl),rfl,rfl⟩
 case h_12=>obtain⟨_,_,ht⟩:=ht;cases h;rw[show y= .map none from hy];obtain⟨b,_,rfl⟩:=hx;exact⟨J9 ht (.inr rfl),rfl,rfl⟩
 .cases h
def mM{op:BinOp}{args:List Aa}{u:Aa}(h:Ay (.int op) args=some u):∃k a l b,args=[.int k a,.int l b]/\iA op k a l b=some u:=by
 simp only[Ay] at h;split at h;.exact⟨_,_,_,_,rfl,h⟩
 .cases h
def mN{op:BinOp}{args:List Aa}{u:Aa}(h:Ay (.str op) args=some u):∃a b,args=[.str a,.str b]/\YU op a b=some u:=by
 simp only[Ay] at h;split at h;.exact⟨_,_,rfl,h⟩
 .cases h
def Y6{op:BinOp}{t:TypeId}{p:Vi}(hp:Of P op t=some p)(f c:Operand){args:List Aa}{x y:Value}(ha:AS γ args [x,y]){u:Aa}(h:Ay p args=some u):
  ∃v,(do eqGuard op t f c x y;binOp op t x y:Sem Value).run P w= .ok v w/\Bz γ u v:=by
 unfold Of at hp;split at hp;.cases hp;obtain⟨k,a,l,b,rfl,h⟩:=mM h;obtain⟨_,_,e,hx,hy⟩:=ha.Xi;cases e;rw[Ea hx,Ea hy];exact YZ t f c h
 .cases hp;obtain⟨a,b,rfl,h⟩:=mN h;obtain⟨_,_,e,hx,hy⟩:=ha.Xi;cases e;rw[MI hx,MI hy];exact Y0 t f c h
 .rename_i d h1 h2 hu;obtain⟨neg,OD,pY⟩:∃neg,((op= .eql/\neg=false)\/(op= .neq/\neg=true))/\Q1 P t neg d=some p:=by cases op<;>first|cases hp;done|exact⟨false,.inl ⟨rfl,rfl⟩,hp⟩|exact⟨true,.inr ⟨rfl,rfl⟩,hp⟩
  clear h1 h2 hp;have hp:=pY;clear pY;unfold Q1 at hp;split at hp
  .cases hp;simp only[Ay] at h;split at h;.obtain⟨_,_,e,hx,hy⟩:=ha.Xi;cases e;cases h;rw[PX hx,PX hy];exact⟨_,Y5 OD t f c hu _ _,rfl⟩
   .cases h
  .split at hp
   .rename_i hg;cases hk:Nr P 20 t with
    |none=>rw[hk] at hp;cases hp
    |some ks=>
     rw[hk] at hp;cases hp;simp only[Ay] at h;split at h;.obtain⟨_,_,e,hx,hy⟩:=ha.Xi;cases e;exact Y4 OD hg hk ⟨_,hu⟩ hx hy h
     .cases h
   .cases hp
  .split at hp;.cases hp
   .rename_i e hz;cases hp;simp only[Ay] at h;split at h
    .rename_i a b;obtain⟨_,_,e,hx,hy⟩:=ha.Xi;cases e;cases hq:iB a b with
     |none=>rw[hq] at h;cases h
     |some r=>rw[hq] at h;cases h;obtain⟨j,i,g⟩:=Sv (w:=w) (d:=9999) hu (by cases Vl:BJ P e with|none=>rw[Vl] at hz;exact absurd rfl hz|some n=>cases n with|zero=>rw[Vl] at hz;exact absurd rfl hz|succ n=>exact⟨n,rfl⟩) hx hy hq;exact⟨_,Rb OD t f c i g j,rfl⟩
    .cases h
  all_goals first
   |cases hp;done
   | (cases hp
      simp only [Ay] at h
      split at h
      . rename_i a b
        obtain ⟨_, _, e, hx, hy⟩ := ha.Xi
        cases e
        cases hq : iC _ a b with
        | none => rw [hq] at h; cases h
        | some r =>
          rw [hq] at h; cases h
          obtain ⟨j, i, g⟩ := Sw (w := w) (P := P) (t := t) (d := 9999) (by first | exact ⟨_, hu⟩ | exact ⟨_, _, hu⟩ | exact ⟨_, _, _, hu⟩) hx hy hq
          exact ⟨_, Rb OD t f c i g j, rfl⟩
      . cases h)
 .cases hp
end
end Go.Am
end
section
namespace Go.Am
open Go
section
variable{P:Program}{γ:Gh}{w:World}
def pk{op:UnOp}{a u:Aa}{x:Value}(hx:Bz γ a x)(h:oe op a=some u):∃v,(Op.unary op x).run P w= .ok v w/\Bz γ u v:=by
 unfold oe at h;split at h;.cases h;rw[PX hx];exact⟨_,rfl,rfl⟩
 .cases h;rw[Ea hx];exact⟨_,rfl,rfl⟩
 .rename_i k n;rw[Ea hx];unfold jn at h;cases hs:Od (Op.unary .xor (.int k n)) with
  |none=>rw[hs] at h;cases h
  |some v=>
   rw[hs] at h;have b:=Tx hs;simp only[B5] at h;split at h;.cases h;exact⟨_,by rw[b];rfl,rfl⟩
   .cases h
 .cases h
def Xj{src dst:TypeId}{k l k':IntKind}{n:Int}(hs:P.underlying src=some (.int l))(hd:P.underlying dst=some (.int k)):(convert src dst (.int k' n)).run P w= .ok (.int k (k.wrap n)) w:=by simp[convert,run_underlying hs,run_underlying hd,Conv.intToInt]
def Xk{src dst:TypeId}{l k':IntKind}{n:Int}(hs:P.underlying src=some (.int l))(hd:P.underlying dst=some .string):(convert src dst (.int k' n)).run P w= .ok (.string (Utf8.encode n)) w:=by simp[convert,run_underlying hs,run_underlying hd,Conv.intToString]
def mO{t:TypeId}{f off:Nat}{b:Option Nat}(hf:Hk P t f=some (off,b)){cs:List Aa}{x:Value}(hx:Bz γ (.agg cs) x){u:Aa}(h:EJ cs off b=some u):∃v,(Instr.field t x f).run P w= .ok v w/\Bz γ u v:=by
 unfold Hk at hf;split at hf
 .rename_i fs hu;split at hf
  .rename_i fd iL;split at hf;.rename_i n c h1 h2;cases hf;obtain⟨us,rfl,hr,h1c⟩:=hx;obtain⟨v,p,q⟩:=Y1 (w:=w) h2 hr h1c h;exact⟨v,by simp[Instr.field,run_underlying hu,iL,asAgg,p],q⟩
   .cases hf
  .cases hf
 .cases hf
def O8{i:Int}{len j:Nat}(h:LW i len=some j):0<=i/\i<len/\i.toNat=j:=by
 unfold LW at h;split at h;.rename_i hc;cases h;exact⟨hc.1,hc.2,rfl⟩
 .cases h
def Vm{t e:TypeId}{len n:Nat}{b:Option Nat}(ht:P.underlying t=some (.array len e))(hn:BJ P e=some n)(bL:EM P e=some b){cs:List Aa}{x:Value}(hx:Bz γ (.agg cs) x){k:IntKind}{i:Int}{j:Nat}
  (hi:LW i len=some j) {u:Aa} (h:EJ cs (j*n) b=some u):∃v,(Instr.index t x (.int k i)).run P w= .ok v w/\Bz γ u v:=by
 obtain⟨us,rfl,hr,h1c⟩:=hx;obtain⟨f,d,c⟩:=O8 hi;obtain⟨v,p,q⟩:=Y1 (w:=w) bL hr h1c h;exact⟨v,by simp[Instr.index,asIntOf,run_underlying ht,f,d,Dc hn,c,p],q⟩
def Vn{t:TypeId}(ht:P.underlying t=some .string){s:Aq}{k:IntKind}{i:Int}{b:UInt8}(h0:0<=i)(h:s[i.toNat]?=some b):
  (Instr.index t (.string ⟨⟨s⟩⟩) (.int k i)).run P w= .ok (.int .u8 b.toNat) w:=by
 obtain⟨hlt,hb⟩:=Ae.1 h;have e:(⟨⟨s⟩⟩:ByteArray)[i.toNat]?=some b:=by rw[ByteArray.getElem?_lt' _ _ (show i.toNat<(⟨⟨s⟩⟩:ByteArray).size from hlt),<-hb];rfl
 simp[Instr.index,asIntOf,run_underlying ht,h0,e]
def iM{p u:Aa}{x:Value}{n:Nat}(hx:Bz γ p x)(h:VU p n=some u):∃a,x= .pointer (some a)/\Bz γ u (.pointer (some (a.add n))):=by
 unfold VU at h;split at h;.rename_i cs;cases h;obtain⟨b,o,rfl,hm⟩:=hx;refine⟨_,rfl,b,o+n,?_,hm.drop n⟩;unfold Addr.add;split<;>simp_all
 .rename_i id o;cases h;obtain⟨b,hb,rfl⟩:=hx;refine⟨_,rfl,b,hb,?_⟩;unfold Addr.add;split<;>simp_all
 .cases h
def Y7{t:TypeId}{f off:Nat}{c:Option Nat}(hf:Hk P t f=some (off,c)){p u:Aa}{x:Value}(hx:Bz γ p x)(h:VU p off=some u):∃v,(Instr.fieldAt t x f).run P w= .ok v w/\Bz γ u v:=by
 obtain⟨a,rfl,hu⟩:=iM hx h;refine⟨_,?_,hu⟩;unfold Hk at hf;split at hf
 .rename_i fs rD;split at hf
  .rename_i fd iL;split at hf;.rename_i n b h1 h2;cases hf;simp[Instr.fieldAt,run_underlying rD,iL,Instr.sureAddr,fieldPlace,Dc h1]
   .cases hf
  .cases hf
 .cases hf
def cK{t e:TypeId}{n:Nat}(ht:P.underlying t=some (.slice e))(hn:BJ P e=some n){s u:Aa}{x:Value}(hx:Bz γ s x){k:IntKind}{i:Int}(h:elemOf n s i=some u):
  ∃v,(Instr.indexAt t x (.int k i)).run P w= .ok v w/\Bz γ u v:=by
 have HO:P.underlying t=some (.slice (P.elem t)):=by simp[Program.elem,ht]
 have he:P.elem t=e:=by simp[Program.elem,ht]
 unfold elemOf at h;split at h
 .rename_i z Ao;split at h
  .rename_i hz;subst hz;split at h
   .rename_i h0;cases hr:Ao[i.toNat]? with
    |none=>rw[hr] at h;cases h
    |some row=>
     rw[hr] at h;cases h;obtain⟨c,cap,rfl,hc,hsp,hm⟩:=hx;obtain⟨hl,zk⟩:=hm.get hr;have hlt:i<Ao.length:=by have:=(Ae.1 hr).1;omega
     have cL:=MD hsp hc Ab;generalize c.block=b at*;generalize c.off=o at*;subst cL;refine⟨.pointer (some ((⟨b,o,none⟩:Addr).add (i.toNat*z))),by rw[run_indexAt_slice w t _ _ _ _ _ HO,Ad ⟨h0,hlt⟩,he,Dc hn];rfl,b,o+i.toNat*z,?_,zk⟩;unfold Addr.add;split<;>simp_all
   .cases h
  .cases h
 .rename_i id off len z;split at h
  .rename_i hz;subst hz;cases hj:LW i len with
   |none=>rw[hj] at h;cases h
   |some j=>rw[hj] at h;cases h;obtain⟨g,f,d⟩:=O8 hj;subst d;obtain⟨b,cap,hb,rfl,hc,hz⟩:=hx;refine⟨.pointer (some ((⟨b,off,none⟩:Addr).add (i.toNat*z))),by rw[run_indexAt_slice w t _ _ _ _ _ HO,Ad ⟨g,f⟩,he,Dc hn];rfl,b,hb,?_⟩;unfold Addr.add;split<;>simp_all
  .cases h
 .cases h
def mP{t e:TypeId}{len n:Nat}(ht:P.underlying t=some (.array len e))(hn:BJ P e=some n){p u:Aa}{x:Value}(hx:Bz γ p x){k:IntKind}{i:Int}{j:Nat}(hj:LW i len=some j)(h:VU p (j*n)=some u):
  ∃v,(Instr.indexAt t x (.int k i)).run P w= .ok v w/\Bz γ u v:=by
 have HO:P.underlying t=some (.array (P.arrayLen t) (P.elem t)):=by simp[Program.elem,Program.arrayLen,ht]
 have he:P.elem t=e:=by simp[Program.elem,ht]
 have hl:P.arrayLen t=len:=by simp[Program.arrayLen,ht]
 obtain⟨a,rfl,hu⟩:=iM hx h;obtain⟨d,c,b⟩:=O8 hj;subst b;exact⟨_,by rw[run_indexAt_array w t _ _ _ HO,hl,Ad ⟨d,c⟩,he,Dc hn];rfl,hu⟩
def yP{t ty:TypeId}{isStr:Bool}(ht:if isStr=true then P.underlying t=some .string else∃e,P.underlying t=some (.slice e)){ts:Array TypeId}(Xl:ts[0]?=some t){s u:Aa}{x:Value}(hx:Bz γ s x)(h:lenOf isStr s=some u):
  ∃v,(Builtin.len_ ts ty #[x]).run P w= .ok v w/\Bz γ u v:=by
 cases isStr with
 |true=>
  replace ht:P.underlying t=some .string:=ht;unfold lenOf at h;split at h<;>first|cases h;done|skip
  simp only[BH] at h;cases h;rw[MI hx];refine⟨_,by simp[Builtin.len_,Xl,run_underlying ht];rfl,rfl⟩
 |false=>
  obtain⟨e,ht⟩:∃e,P.underlying t=some (.slice e):=ht;unfold lenOf at h;split at h;.cases h;obtain⟨c,cap,rfl,_⟩:=hx;exact⟨_,by simp[Builtin.len_,Xl,run_underlying ht];rfl,rfl⟩
  .cases h;obtain⟨b,cap,_,rfl,_⟩:=hx;exact⟨_,by simp[Builtin.len_,Xl,run_underlying ht];rfl,rfl⟩
  .cases h;rw[show x= .slice none 0 0 from hx];exact⟨_,by simp[Builtin.len_,Xl,run_underlying ht];rfl,rfl⟩
  .cases h;obtain⟨b,rfl⟩:=hx;exact⟨_,by simp[Builtin.len_,Xl,run_underlying ht];rfl,rfl⟩
  .cases h
  .cases h
def yQ{vs:List Aa}{x:Value}(hx:Bz γ (.tuple vs) x){i:Nat}{u:Aa}(h:vs[i]?=some u):∃v,(Instr.extract x i).run P w= .ok v w/\Bz γ u v:=by
 obtain⟨us,rfl,hr⟩:=hx;obtain⟨v,hv,q⟩:=hr.get h;exact⟨v,by
  have:us[i]?=some v:=by simpa using hv
  simp[Instr.extract,this],q⟩
end
end Go.Am
end
section
namespace Go.Am
open Go
section
variable{P:Program}{γ:Gh}{w:World}
def MJ{n:Int}{top j:Nat}(h:FG n top=some j):0<=n/\n<=top/\n.toNat=j:=by
 unfold FG at h;split at h;.rename_i hc;cases h;exact⟨hc.1,hc.2,rfl⟩
 .cases h
def Jk{lo hi:Option Value}{as:List Aa}{len cap l h:Nat}{isSlice:Bool}(hb:D2 lo.isSome hi.isSome len as=some (l,h))(hr:AS γ as (lo.toList++hi.toList))(hc:len<=cap):
  (Instr.sliceBounds isSlice len cap lo hi none).run P w= .ok (l,h,cap) w/\l<=h/\h<=len:=by
 cases lo<;>cases hi<;>simp only[Option.isSome,D2] at hb
 .split at hb;.cases hb;exact⟨by simp[Instr.sliceBounds],A7 _,Af _⟩
  .cases hb
 .rename_i hv;split at hb
  .rename_i k h';cases b:FG h' len with
   |none=>rw[b] at hb;cases hb
   |some j=>rw[b] at hb;cases hb;obtain⟨d,f,c⟩:=MJ b;obtain⟨_,e,hx⟩:=hr.one;cases e;rw[Ea hx];refine⟨?_,A7 _,Ab⟩;have:h'<=(cap:Int):=Ab;simp[Instr.sliceBounds,run_sliceBound,d,this,c]
  .cases hb
 .rename_i o;split at hb
  .rename_i k l';cases b:FG l' len with
   |none=>rw[b] at hb;cases hb
   |some j=>rw[b] at hb;cases hb;obtain⟨d,f,c⟩:=MJ b;obtain⟨_,e,hx⟩:=hr.one;cases e;rw[Ea hx];refine⟨?_,Ab,Af _⟩;simp[Instr.sliceBounds,run_sliceBound,d,f,c]
  .cases hb
 .rename_i o hv;split at hb
  .rename_i k l' k' h';cases b:FG h' len with
   |none=>rw[b] at hb;cases hb
   |some j=>
    rw[b] at hb;simp only[B5] at hb;cases xV:FG l' j with
    |none=>rw[xV] at hb;cases hb
    |some i=>rw[xV] at hb;cases hb;obtain⟨d,f,c⟩:=MJ b;obtain⟨n,m,g⟩:=MJ xV;obtain⟨_,_,e,hx,hy⟩:=hr.Xi;cases e;rw[Ea hx,Ea hy];refine⟨?_,Ab,Ab⟩;have:h'<=(cap:Int):=Ab;simp[Instr.sliceBounds,run_sliceBound,d,this,n,c,g,m]
  .cases hb
def Ey.slice{Ao:List (List Aa)}{z b o:Nat}(h:Ey γ Ao z b o)(l k:Nat):Ey γ ((Ao.take k).drop l) z b (o+l*z):=by
 refine Ey.Gf λi r hi=>?_;rw[Cm,B3] at hi;split at hi;.obtain⟨p,q⟩:=h.get hi;exact⟨p,by rw[show o+l*z+i*z=o+(l+i)*z by rw[Bs];omega];exact q⟩
 .cases hi
def yR{t:TypeId}{isStr:Bool}{size:Nat}(ht:if isStr=true then P.underlying t=some .string else∃e,P.underlying t=some (.slice e)/\BJ P e=some size){s u:Aa}{x:Value}(hx:Bz γ s x){as:List Aa}{lo hi:Option Value}
  (hr:AS γ as (lo.toList++hi.toList)) (h:Km size isStr lo.isSome hi.isSome s as=some u):
  ∃v,(Instr.sliceAt t x lo hi none).run P w= .ok v w/\Bz γ u v:=by
 unfold Km at h;split at h
 .split at h
  .rename_i s OE;subst OE;replace ht:P.underlying t=some .string:=ht;cases hb:D2 lo.isSome hi.isSome s.length as with
   |none=>rw[hb] at h;cases h
   |some f=>
    obtain⟨l,k⟩:=f;rw[hb] at h;cases h;obtain⟨c,i,g⟩:=Jk (P:=P) (w:=w) (isSlice:=false) hb hr (Af _);rw[MI hx,run_sliceAt_string w t _ _ _ _ ht];refine⟨.string ((⟨⟨s⟩⟩:ByteArray).extract l k),?_,?_⟩;.have e:(⟨⟨s⟩⟩:ByteArray).size=s.length:=rfl;simp only[Instr.slice,Sem.run_bind,run_underlying ht,Result.andThen_ok];simp only[e,c,Option.isSome,Dk,E9,Sem.run_bind,Sem.run_pure,Result.andThen_ok]
    .show Value.string _=Value.string _;congr 1
     apply ByteArray.ext;apply GC;simp[ByteArray.data_extract,GN,List.drop_take]
  .cases h
 .rename_i z Ao;split at h
  .rename_i hc;obtain⟨rfl,rfl⟩:=hc;obtain⟨e,ht,hn⟩:∃e,P.underlying t=some (.slice e)/\BJ P e=some z:=ht;have HO:P.underlying t=some (.slice (P.elem t)):=by simp[Program.elem,ht]
   have he:P.elem t=e:=by simp[Program.elem,ht]
   obtain⟨d,cap,rfl,hc,hsp,hm⟩:=hx;cases hb:D2 lo.isSome hi.isSome Ao.length as with
   |none=>rw[hb] at h;cases h
   |some f=>
    obtain⟨l,k⟩:=f;rw[hb] at h;cases h;obtain⟨c,i,g⟩:=Jk (P:=P) (w:=w) (isSlice:=true) hb hr hc;rw[run_sliceAt_slice w t _ _ _ _ HO,run_slice_any w t _ _ _ HO,c,he,Result.andThen_ok,Dc hn];refine⟨_,rfl,?_⟩;show Bz γ (.sl z ((Ao.take k).drop l)) (.slice (if cap=l then some d else Option.map (λq:Addr=>q.add (l*z)) (some d)) (k-l) (cap-l));have hlen:((Ao.take k).drop l).length=k-l:=ER;by_cases hcl:cap=l;.have:(Ao.take k).drop l=[]:=CB Ab;rw[this];simp only[hcl,BH];exact⟨d,l-l,ER,Aw,.inr Ab,trivial⟩
    .rw[Ac hcl];have cL:d=⟨d.block,d.off,none⟩:=by
      rcases hsp with hsp|hsp
      .cases d;simp_all
      .omega
     generalize d.block=b at*;generalize d.off=o at*;subst cL;refine⟨⟨b,o+l*z,none⟩,cap-l,?_,Ab,.inl rfl,hm.slice l k⟩;rw[hlen];simp only[BU];unfold Addr.add;split<;>simp_all
  .cases h
 .rename_i id off n z;split at h
  .rename_i hc;obtain⟨rfl,rfl⟩:=hc;obtain⟨e,ht,hn⟩:∃e,P.underlying t=some (.slice e)/\BJ P e=some z:=ht;have HO:P.underlying t=some (.slice (P.elem t)):=by simp[Program.elem,ht]
   have he:P.elem t=e:=by simp[Program.elem,ht]
   obtain⟨b,cap,xW,rfl,hc,hz,J3⟩:=hx;cases hb:D2 lo.isSome hi.isSome n as with
   |none=>rw[hb] at h;cases h
   |some f=>
    obtain⟨l,k⟩:=f;rw[hb] at h;simp only[B5] at h;split at h
    .rename_i iN;cases h;obtain⟨c,i,g⟩:=Jk (P:=P) (w:=w) (isSlice:=true) hb hr hc;rw[run_sliceAt_slice w t _ _ _ _ HO,run_slice_any w t _ _ _ HO,c,he,Result.andThen_ok,Dc hn];refine⟨_,rfl,b,cap-l,xW,?_,Ab,⟨hz.1,Bm (Nat.sub_le _ _) hz.2⟩,?_⟩;.show Value.slice (if cap=l then some ⟨b,off,none⟩ else Option.map (λq:Addr=>q.add (l*z)) (some ⟨b,off,none⟩)) (k-l) (cap-l)=_;rw[Ac Ab];simp only[BU];unfold Addr.add;split<;>simp_all
     .rw[J3,Py,<-Bs,aBq Ab]
    .rename_i iN;cases h;obtain⟨c,i,g⟩:=Jk (P:=P) (w:=w) (isSlice:=true) hb hr hc;rw[run_sliceAt_slice w t _ _ _ _ HO,run_slice_any w t _ _ _ HO,c,he,Result.andThen_ok,Dc hn];have V5:k-l=0:=Ab;by_cases hcl:cap=l;.refine⟨_,rfl,⟨b,off,none⟩,cap-l,?_,Aw,.inl rfl,trivial⟩;show Value.slice (if cap=l then some ⟨b,off,none⟩ else Option.map (λq:Addr=>q.add (l*z)) (some ⟨b,off,none⟩)) (k-l) (cap-l)=_;rw[Ad hcl,V5];rfl
     .refine⟨_,rfl,(Addr.mk b off none).add (l*z),cap-l,?_,Aw,.inl ?_,trivial⟩;.show Value.slice (if cap=l then some ⟨b,off,none⟩ else Option.map (λq:Addr=>q.add (l*z)) (some ⟨b,off,none⟩)) (k-l) (cap-l)=_;rw[Ac hcl,V5];rfl
      .unfold Addr.add;split<;>simp_all
  .cases h
 .split at h;.cases h
  .rename_i OE;have OE:isStr=false:=by simpa using OE
   subst OE;obtain⟨e,ht,hn⟩:∃e,P.underlying t=some (.slice e)/\BJ P e=some size:=ht;have HO:P.underlying t=some (.slice (P.elem t)):=by simp[Program.elem,ht]
   have he:P.elem t=e:=by simp[Program.elem,ht]
   rw[show x= .slice none 0 0 from hx];cases hb:D2 lo.isSome hi.isSome 0 as with
   |none=>rw[hb] at h;cases h
   |some f=>obtain⟨l,k⟩:=f;rw[hb] at h;cases h;obtain⟨c,i,g⟩:=Jk (P:=P) (w:=w) (isSlice:=true) hb hr (Af _);rw[run_sliceAt_slice w t _ _ _ _ HO,run_slice_any w t _ _ _ HO,c,he,Result.andThen_ok,Dc hn];refine⟨_,rfl,?_⟩;have:l=0:=Ab;subst this;have:k=0:=Ab;subst this;rfl
 .cases h
end
end Go.Am
end
section
namespace Go.Am
open Go
section
variable{P:Program}{γ:Gh}{w:World}
def Gx{a:Aa}{v:Value}(h:Bz γ a v)(hn:0<a.cells.length):AS γ a.cells v.cells.toList/\∀u∈v.cells.toList,u.oneCell'=true:=by
 cases a with
 |agg cs=>obtain⟨us,rfl,p,q⟩:=h;exact⟨p,q⟩
 |tuple vs=>exact absurd hn (by simp[Aa.cells])
 |bool b=>rw[show v=_ from h];exact⟨⟨_,[],rfl,rfl,rfl⟩,O9⟩
 |int k n=>rw[show v=_ from h];exact⟨⟨_,[],rfl,rfl,rfl⟩,O9⟩
 |str s=>rw[show v=_ from h];exact⟨⟨_,[],rfl,rfl,rfl⟩,O9⟩
 |slnil=>rw[show v=_ from h];exact⟨⟨_,[],rfl,rfl,rfl⟩,O9⟩
 |Fq z=>have h0:=h;obtain⟨b,rfl⟩:=h;exact⟨⟨_,[],rfl,h0,rfl⟩,O9⟩
 |nilFunc=>rw[show v=_ from h];exact⟨⟨_,[],rfl,rfl,rfl⟩,O9⟩
 |nilIface=>rw[show v=_ from h];exact⟨⟨_,[],rfl,rfl,rfl⟩,O9⟩
 |ptr p=>
  have h0:=h;cases p with
  |none=>rw[show v=_ from h];exact⟨⟨_,[],rfl,rfl,rfl⟩,O9⟩
  |some p=>obtain⟨i,o⟩:=p;obtain⟨b,_,rfl⟩:=h;exact⟨⟨_,[],rfl,h0,rfl⟩,O9⟩
 |Cz cs=>have h0:=h;obtain⟨b,o,rfl,_⟩:=h;exact⟨⟨_,[],rfl,h0,rfl⟩,O9⟩
 |sl z Ao=>have h0:=h;obtain⟨d,cap,rfl,_⟩:=h;exact⟨⟨_,[],rfl,h0,rfl⟩,O9⟩
 |CL id off len z=>have h0:=h;obtain⟨b,cap,_,rfl,_⟩:=h;exact⟨⟨_,[],rfl,h0,rfl⟩,O9⟩
 |map m=>
  have h0:=h;cases m with
  |none=>rw[show v=_ from h];exact⟨⟨_,[],rfl,rfl,rfl⟩,O9⟩
  |some id=>obtain⟨b,_,rfl⟩:=h;exact⟨⟨_,[],rfl,h0,rfl⟩,O9⟩
 |func fn f c=>have h0:=h;obtain⟨fs,cs,rfl,_⟩:=h;exact⟨⟨_,[],rfl,h0,rfl⟩,O9⟩
 |iface t a=>have h0:=h;obtain⟨u,rfl,_⟩:=h;exact⟨⟨_,[],rfl,h0,rfl⟩,O9⟩
def MK:∀(vs:List Value) (off j:Nat) (cells:Array Value),off+j+vs.length<=cells.size->
  (vs.zipIdx j).foldl (λcs (c,i)=>cs.setIfInBounds (off+i) c) cells=(cells.toList.take (off+j)++vs++cells.toList.drop (off+j+vs.length)).toArray
 |[],off,j,cells,h=>Aw
 |v::vs,off,j,cells,h=>by
  simp only[gX,pV];rw[MK vs off (j+1) _ (by simp at h⊢;omega)];simp only[AU] at h;have hk:off+j<cells.toList.length:=ER;have e0:(cells.setIfInBounds (off+j) v).toList=cells.toList.set (off+j) v:=Aw;have d:(cells.toList.set (off+j) v).take (off+j+1)=cells.toList.take (off+j)++[v]:=by rw[List.take_add_one,VO (Af _),AH hk];rfl
  have b:(cells.toList.set (off+j) v).drop (off+j+1+vs.length)=cells.toList.drop (off+j+1+vs.length):=aBr Ab;rw[e0,(Ab:off+(j+1)=off+j+1),d,b];rw[(ER:off+j+(v::vs).length=off+j+1+vs.length)];simp
def TA{place:Nat->Option (Nat×Nat)}:∀{places:List (Nat×Nat)} {as:List Aa} {parts:List (Nat×Value)} {cs:List Aa} {us:Array Value} {Gd:List Aa},BD cs (places.zip as)=some Gd->places.length=as.length->
  parts.map (λp=>place p.1)=places.map some->AS γ as (parts.map (·.2))->AS γ cs us.toList->(∀u∈us.toList,u.oneCell'=true)->
  ∃C6,Instr.fill place us parts=some C6/\AS γ Gd C6.toList/\∀u∈C6.toList,u.oneCell'=true
 |[],as,parts,cs,us,Gd,h,hl,hp,ha,hr,h1=>by
  have:parts=[]:=by simpa using hp
  subst this;simp only[List.zip_nil_left,BD] at h;cases h;exact⟨us,rfl,hr,h1⟩
 |(off,size)::places,[],parts,cs,us,Gd,h,hl,hp,ha,hr,h1=>by simp at hl
 |(off,size)::places,a::as,[],cs,us,Gd,h,hl,hp,ha,hr,h1=>by simp at hp
 |(off,size)::places,a::as,(i,v)::parts,cs,us,Gd,h,hl,hp,ha,hr,h1=>by
  simp only[aEN,BD] at h;split at h
  .rename_i hc;obtain⟨n,m,l⟩:=hc;simp only[Bi,FO] at hp;obtain⟨_,_,e,yS,po⟩:=ha.KG;simp only[Bi,FO] at e;obtain⟨k,j⟩:=e;subst k;subst j;obtain⟨b,f⟩:=Gx yS Ab;have J3:v.cells.size=size:=by have:=b.length;simp at this;omega
   have VW:us.size=cs.length:=by have:=hr.length;simpa using this
   have hf:=MK v.cells.toList off 0 us (by simp[J3];omega);obtain⟨C6,d,r2,c⟩:=TA (place:=place) (us:=(us.toList.take off++v.cells.toList++us.toList.drop (off+size)).toArray) h (by simpa using hl) hp.2 po
    (by simpa using((hr.take off).append b).append (hr.drop (off+size)))
    (λu hu=>by
     simp only[Ak] at hu;rcases hu with(hu|hu)|hu
     .exact h1 u (AN hu)
     .exact f u hu
     .exact h1 u (A6 hu))
   refine⟨C6,?_,r2,c⟩;rw[Instr.fill];simp only[hp.1];rw[Ac (by simp[J3];omega)];rw[<-d];congr 1
   have g:v.cells.toList.length=size:=by simpa using J3
   rw[<-aEO,aBs,hf];simp[g]
  .cases h
def Vo{v:Value}{a:Aa}(h:Jz v=some a):AS γ a.cells v.cells.toList/\∀u∈v.cells.toList,u.oneCell'=true:=by
 have hr:=EO (γ:=γ) h;unfold Jz at h;split at h
 .rename_i cs;cases hs:Kw cs.toList with
  |none=>rw[hs] at h;cases h
  |some as=>rw[hs] at h;cases h;exact LF hs
 .refine Gx hr ?_;unfold No at h;split at h<;>first|(cases h;simp[Aa.cells];done)|skip
  .split at h;.cases h;simp[Aa.cells]
   .cases h
  .cases h
def M9{t:TypeId}{fs:Array Field}(hu:P.underlying t=some (.struct fs)){place:Nat->Option (Nat×Nat)}(mQ:∀(i:Nat) (f:Field) (n:Nat),fs[i]?=some f->BJ P f.type=some n->place i=some (f.offset,n)):
  ∀{parts:List (Nat×Operand)} {ps:List (Nat×Nat)},IL P t parts=some ps->parts.map (λp=>place p.1)=ps.map some
 |[],ps,h=>by cases h;rfl
 |(i,x)::rest,ps,h=>by
  simp only[IL,hu] at h;split at h
  .rename_i f hf;split at h;.rename_i n r h1 h2;cases h;simp[mQ i f n hf h1,M9 hu mQ h2]
   .cases h
  .cases h
def Nx{t e:TypeId}{len n:Nat}(hu:P.underlying t=some (.array len e))(hn:BJ P e=some n):
  ∀{parts:List (Nat×Operand)} {ps:List (Nat×Nat)},IL P t parts=some ps->parts.map (λp=>some (p.1*n,n))=ps.map some
 |[],ps,h=>by cases h;rfl
 |(i,x)::rest,ps,h=>by
  simp only[IL,hu] at h;split at h
  .split at h;.rename_i n' r h1 h2;cases h;rw[hn] at h1;cases h1;simp[Nx hu hn h2]
   .cases h
  .cases h
def RM:∀(fs:List Field),(fs.all λf=>(BJ P f.type).isSome)=true->∃places,fs.mapM (λf=>(P.info? f.type).map λi=>(f.offset,i.size))=some places/\
  ∀(i:Nat) (f:Field) (n:Nat),fs[i]?=some f->BJ P f.type=some n->places[i]?=some (f.offset,n)
 |[],_=>⟨[],rfl,Aw⟩
 |f::fs,h=>by
  simp only[W8,Bt] at h;obtain⟨rest,h1,h2⟩:=RM fs h.2;cases hi:P.info? f.type with
  |none=>simp[BJ,hi] at h
  |some b=>
   refine⟨(f.offset,b.size)::rest,by simp[hi,h1],λi g n hg hn=>?_⟩;cases i with
   |zero=>simp at hg;subst hg;simp[BJ,hi] at hn;simp[hn]
   |succ i=>simpa using h2 i g n (by simpa using hg) hn
def mR{t:TypeId}{z:Aa}{parts:Array (Nat×Operand)}{ps:List (Nat×Nat)}{O:Operand->Value}(hz:Ge P t=some z)(hp:IL P t parts.toList=some ps)(hb:SV P t=true){as:List Aa}
  (ha:AS γ as ((parts.toList.map (·.2)).map O)) {u:Aa} (h:Ay (.B4 z.cells ps) as=some u):∃v,(Instr.build t (parts.map λ(i,x)=>(i,O x))).run P w= .ok v w/\Bz γ u v:=by
 simp only[Ay] at h;split at h
 .rename_i hl;cases hf:BD z.cells (ps.zip as) with
  |none=>rw[hf] at h;cases h
  |some cs=>
   rw[hf] at h;cases h;unfold Ge at hz;cases hi:P.info? t with
   |none=>rw[hi] at hz;cases hz
   |some d=>
    cases Vl:d.zero with
    |none=>rw[hi] at hz;simp[Vl] at hz
    |some k=>
     rw[hi] at hz;simp only[B5,Vl] at hz;obtain⟨c,z2⟩:=Vo (γ:=γ) hz;have hparts:((parts.map λ(i,x)=>(i,O x)).toList.map (·.2))=(parts.toList.map (·.2)).map O:=Aw;unfold SV at hb;split at hb
     .rename_i fs hu;obtain⟨places,j,g⟩:=RM fs.toList hb;obtain⟨C6,f1,f2,f3⟩:=TA (place:=λi=>places.toArray[i]?) (parts:=(parts.map λ(i,x)=>(i,O x)).toList) hf hl
       (by have:=M9 hu (place:=λi=>places.toArray[i]?) (λi f n h1 h2=>by simpa using g i f n (by simpa using h1) h2) hp;rw[<-this];simp) (by rw[hparts];exact ha) c z2
      exact⟨.agg C6,run_build w t _ _ (by unfold Program.built;simp only[hi,hu,Vl,j];exact f1),C6,rfl,f2,f3⟩
     .rename_i len e hu;cases he:P.info? e with
      |none=>simp[BJ,he] at hb
      |some b=>
       obtain⟨C6,f1,f2,f3⟩:=TA (place:=λi=>some (i*b.size,b.size)) (parts:=(parts.map λ(i,x)=>(i,O x)).toList) hf hl
        (by have:=Nx hu (n:=b.size) (by simp[BJ,he]) hp;rw[<-this];simp) (by rw[hparts];exact ha) c z2
       exact⟨.agg C6,run_build w t _ _ (by unfold Program.built;simp only[hi,hu,Vl,he];exact f1),C6,rfl,f2,f3⟩
     .cases hb
 .cases h
end
end Go.Am
end
section
namespace Go.Am
open Go
def Vi.still:Vi->Bool
 | .append _ _| .Cf _| .Fq _| .zg| .Vk=>false
 |_=>true
def Gy{o:qM}{dst:Option Nat}{x:Option (List Aa)}{r:Ei}(h:Q3 o dst x=some r):∃args,x=some args/\r= .mem o args dst:=by
 unfold Q3 at h;split at h;.cases h;exact⟨_,rfl,rfl⟩
 .cases h
def JN{o:qM}{dst:Option Nat}{x:Option (List Aa)}{p:Vi}{args:List Aa}{d:Option Nat}{BE:Bool}{b:Option (Nat×Aa)}:¬Q3 o dst x=some (.op p args d BE b):=λh=>by obtain⟨_,_,e⟩:=Gy h;cases e
def Dt{p:Vi}{dst:Option Nat}{x:Option (List Aa)}{r:Ei}(h:Q2 p dst x=some r):∃args,x=some args/\r= .op p args dst false none:=by
 cases x with
 |none=>cases h
 |some args=>cases h;exact⟨args,rfl,rfl⟩
section
variable{C:FC}{γ0 γ:Gh}{w0 w:World}{Z:Nat->Nat}{U:Bx}{h:Ah}{a:Act}{fid:FuncId}{ops:List Oper}
def GZ(P:Program)(γ:Gh)(a:Act)(o:Oper)(w:World)(p:Vi)(args:List Aa):Prop:=
 ∀u,Ay p args=some u->∃v,(execOp a.eval o).run P w= .ok (.value v) w/\Bz γ u v
def Et{P:Program}{s:Sem Value}{v:Value}(hs:s.run P w= .ok v w):(do pure (Next.value (<-s)):Sem Next).run P w= .ok (.value v) w:=by simp[hs]
def cM{o:Oper}{c x y:Operand}(ho:o.op= .pick c x y)(hr:CH C γ0 w0 γ Z U h a w){args:List Aa}(ha:Be C U [c,x,y]=some args):GZ C.P γ a o w .pick args:=by
 intro u hu;simp only[Ay] at hu;split at hu;.rename_i b p q;cases hu;obtain⟨_,_,_,e,h1,h2,d⟩:=(Ds hr ha).V4;simp only[Bi,DW,FO] at e;obtain⟨i,g,f,_⟩:=e;rw[<-i] at h1;rw[<-g] at h2;rw[<-f] at d;refine⟨if b then a.eval x else a.eval y,?_,by cases b<;>simpa⟩;simp[execOp,ho,PX h1,asBool]
 .cases hu
def mS{o:Oper}{op:BinOp}{t:TypeId}{x y:Operand}{p:Vi}(hp:Of C.P op t=some p)(he:execOp a.eval o=(do pure (Next.value (<-(do eqGuard op t x y (a.eval x) (a.eval y);binOp op t (a.eval x) (a.eval y):Sem Value)))))
  (hr:CH C γ0 w0 γ Z U h a w) {args:List Aa} (ha:Be C U [x,y]=some args):GZ C.P γ a o w p args:=by
 intro u hu;obtain⟨v,c,b⟩:=Y6 (w:=w) hp x y (Ds hr ha) hu;exact⟨v,by rw[he];exact Et c,b⟩
def FZ(hr:CH C γ0 w0 γ Z U h a w){x:Operand}{args:List Aa}(ha:Be C U [x]=some args):∃u,args=[u]/\Bz γ u (a.eval x):=by
 have h1:=Ds hr ha;cases args with
 |nil=>cases h1
 |cons u us=>
  obtain⟨_,_,e,h2,b⟩:=h1.KG;cases e;cases us with
  |nil=>exact⟨u,rfl,h2⟩
  |cons _ _=>obtain⟨_,_,e,_⟩:=b.KG;cases e
def ED(hr:CH C γ0 w0 γ Z U h a w){x y:Operand}{args:List Aa}(ha:Be C U [x,y]=some args):∃u v,args=[u,v]/\Bz γ u (a.eval x)/\Bz γ v (a.eval y):=by
 have h1:=Ds hr ha;cases args with
 |nil=>cases h1
 |cons u us=>
  obtain⟨_,_,e,h2,b⟩:=h1.KG;cases e;cases us with
  |nil=>cases b
  |cons v vs=>
   obtain⟨_,_,e,d,c⟩:=b.KG;cases e;cases vs with
   |nil=>exact⟨u,v,rfl,h2,d⟩
   |cons _ _=>obtain⟨_,_,e,_⟩:=c.KG;cases e
def rE{o:Oper}{op:UnOp}{x:Operand}(he:execOp a.eval o=(do pure (Next.value (<-Op.unary op (a.eval x)))))
  (hr:CH C γ0 w0 γ Z U h a w) {args:List Aa} (ha:Be C U [x]=some args):GZ C.P γ a o w (.un op) args:=by
 intro u hu;obtain⟨v,rfl,h1⟩:=FZ hr ha;simp only[Ay] at hu;obtain⟨r,c,b⟩:=pk (P:=C.P) (w:=w) h1 hu;exact⟨r,by rw[he];exact Et c,b⟩
def cN{o:Oper}{src dst:TypeId}{k l:IntKind}{x:Operand}(hs:C.P.underlying src=some (.int l))(hd:C.P.underlying dst=some (.int k))(he:execOp a.eval o=(do pure (Next.value (<-convert src dst (a.eval x)))))
  (hr:CH C γ0 w0 γ Z U h a w) {args:List Aa} (ha:Be C U [x]=some args):GZ C.P γ a o w (.conv k) args:=by
 intro u hu;obtain⟨v,rfl,h1⟩:=FZ hr ha;simp only[Ay] at hu;split at hu;.rename_i e;cases e;cases hu;rw[Ea h1] at he;exact⟨_,by rw[he];exact Et (Xj hs hd),rfl⟩
 .cases hu
def mT{o:Oper}{src dst:TypeId}{l:IntKind}{x:Operand}(hs:C.P.underlying src=some (.int l))(hd:C.P.underlying dst=some .string)(he:execOp a.eval o=(do pure (Next.value (<-convert src dst (a.eval x)))))
  (hr:CH C γ0 w0 γ Z U h a w) {args:List Aa} (ha:Be C U [x]=some args):GZ C.P γ a o w .i2s args:=by
 intro u hu;obtain⟨v,rfl,h1⟩:=FZ hr ha;simp only[Ay] at hu;split at hu;.rename_i e;cases e;cases hu;rw[Ea h1] at he;exact⟨_,by rw[he];exact Et (Xk hs hd),rfl⟩
 .cases hu
def Y8{o:Oper}{t:TypeId}{x:Operand}{f off:Nat}{b:Option Nat}(hf:Hk C.P t f=some (off,b))(he:execOp a.eval o=(do pure (Next.value (<-Instr.field t (a.eval x) f))))
  (hr:CH C γ0 w0 γ Z U h a w) {args:List Aa} (ha:Be C U [x]=some args):GZ C.P γ a o w (.part off b) args:=by
 intro u hu;obtain⟨v,rfl,h1⟩:=FZ hr ha;simp only[Ay] at hu;split at hu;.rename_i e;cases e;obtain⟨r,d,c⟩:=mO (w:=w) hf h1 hu;exact⟨r,by rw[he];exact Et d,c⟩
 .cases hu
def Sx{o:Oper}{t:TypeId}{x:Operand}{f off:Nat}{b:Option Nat}(hf:Hk C.P t f=some (off,b))(he:execOp a.eval o=(do pure (Next.value (<-Instr.fieldAt t (a.eval x) f))))
  (hr:CH C γ0 w0 γ Z U h a w) {args:List Aa} (ha:Be C U [x]=some args):GZ C.P γ a o w (.FV off) args:=by
 intro u hu;obtain⟨v,rfl,h1⟩:=FZ hr ha;simp only[Ay] at hu;obtain⟨r,d,c⟩:=Y7 (w:=w) hf h1 hu;exact⟨r,by rw[he];exact Et d,c⟩
def mU{o:Oper}{x:Operand}{i:Nat}(he:execOp a.eval o=(do pure (Next.value (<-Instr.extract (a.eval x) i))))
  (hr:CH C γ0 w0 γ Z U h a w) {args:List Aa} (ha:Be C U [x]=some args):GZ C.P γ a o w (.ext i) args:=by
 intro u hu;obtain⟨v,rfl,h1⟩:=FZ hr ha;simp only[Ay] at hu;split at hu;.rename_i e;cases e;obtain⟨r,c,b⟩:=yQ (P:=C.P) (w:=w) h1 hu;exact⟨r,by rw[he];exact Et c,b⟩
 .cases hu
def Sy{o:Oper}{t:TypeId}{x y:Operand}(ht:C.P.underlying t=some .string)(he:execOp a.eval o=(do pure (Next.value (<-Instr.index t (a.eval x) (a.eval y)))))
  (hr:CH C γ0 w0 γ Z U h a w) {args:List Aa} (ha:Be C U [x,y]=some args):GZ C.P γ a o w .YT args:=by
 intro u hu;obtain⟨p,q,rfl,h1,h2⟩:=ED hr ha;simp only[Ay] at hu;split at hu
 .rename_i e;cases e;split at hu
  .rename_i s k i h0;cases hb:s[i.toNat]? with
   |none=>rw[hb] at hu;cases hu
   |some b=>rw[hb] at hu;cases hu;rw[MI h1,Ea h2] at he;exact⟨_,by rw[he];exact Et (Vn ht h0 hb),rfl⟩
  .cases hu
 .cases hu
def SB{o:Oper}{t e:TypeId}{len n:Nat}{b:Option Nat}{x y:Operand}(ht:C.P.underlying t=some (.array len e))(hn:BJ C.P e=some n)(bL:EM C.P e=some b)(he:execOp a.eval o=(do pure (Next.value (<-Instr.index t (a.eval x) (a.eval y)))))
  (hr:CH C γ0 w0 γ Z U h a w) {args:List Aa} (ha:Be C U [x,y]=some args):GZ C.P γ a o w (.od len n b) args:=by
 intro u hu;obtain⟨p,q,rfl,h1,h2⟩:=ED hr ha;simp only[Ay] at hu;split at hu
 .rename_i e;cases e;rename_i cs k i;cases hb:LW i len with
  |none=>rw[hb] at hu;cases hu
  |some j=>rw[hb] at hu;simp only[B5] at hu;rw[Ea h2] at he;obtain⟨r,d,c⟩:=Vm (w:=w) (k:=k) ht hn bL h1 hb hu;exact⟨r,by rw[he];exact Et d,c⟩
 .cases hu
def TB{o:Oper}{t e:TypeId}{n:Nat}{x y:Operand}(ht:C.P.underlying t=some (.slice e))(hn:BJ C.P e=some n)(he:execOp a.eval o=(do pure (Next.value (<-Instr.indexAt t (a.eval x) (a.eval y)))))
  (hr:CH C γ0 w0 γ Z U h a w) {args:List Aa} (ha:Be C U [x,y]=some args):GZ C.P γ a o w (.Gm n) args:=by
 intro u hu;obtain⟨p,q,rfl,h1,h2⟩:=ED hr ha;simp only[Ay] at hu;split at hu;.rename_i e;cases e;rename_i k i;rw[Ea h2] at he;obtain⟨r,c,b⟩:=cK (w:=w) (k:=k) ht hn h1 hu;exact⟨r,by rw[he];exact Et c,b⟩
 .cases hu
def Vp{o:Oper}{t e:TypeId}{len n:Nat}{x y:Operand}(ht:C.P.underlying t=some (.array len e))(hn:BJ C.P e=some n)(he:execOp a.eval o=(do pure (Next.value (<-Instr.indexAt t (a.eval x) (a.eval y)))))
  (hr:CH C γ0 w0 γ Z U h a w) {args:List Aa} (ha:Be C U [x,y]=some args):GZ C.P γ a o w (.Tg len n) args:=by
 intro u hu;obtain⟨p,q,rfl,h1,h2⟩:=ED hr ha;simp only[Ay] at hu;split at hu
 .rename_i e;cases e;rename_i k i;cases hb:LW i len with
  |none=>rw[hb] at hu;cases hu
  |some j=>rw[hb] at hu;simp only[B5] at hu;rw[Ea h2] at he;obtain⟨r,c,b⟩:=mP (w:=w) (k:=k) ht hn h1 hb hu;exact⟨r,by rw[he];exact Et c,b⟩
 .cases hu
def RN{o:Oper}{t:TypeId}{x:Operand}{lo hi:Option Operand}{isStr:Bool}{size:Nat}(ht:if isStr=true then C.P.underlying t=some .string else∃e,C.P.underlying t=some (.slice e)/\BJ C.P e=some size)
  (he:execOp a.eval o=(do pure (Next.value (<-Instr.sliceAt t (a.eval x) (lo.map a.eval) (hi.map a.eval) none))))
  (hr:CH C γ0 w0 γ Z U h a w) {args:List Aa} (ha:Be C U (x::(lo.toList++hi.toList))=some args):GZ C.P γ a o w (.PI size isStr lo.isSome hi.isSome) args:=by
 intro u hu;have h1:=Ds hr ha;cases args with
 |nil=>cases h1
 |cons s as=>obtain⟨_,_,e,h2,d⟩:=h1.KG;cases e;simp only[Ay] at hu;obtain⟨r,c,b⟩:=yR (P:=C.P) (w:=w) (lo:=lo.map a.eval) (hi:=hi.map a.eval) ht h2 (by cases lo<;>cases hi<;>simpa using d) (by simpa using hu);exact⟨r,by rw[he];exact Et c,b⟩
def Y9{o:Oper}{t:TypeId}{parts:Array (Nat×Operand)}{z:Aa}{ps:List (Nat×Nat)}(hz:Ge C.P t=some z)(hp:IL C.P t parts.toList=some ps)(hb:SV C.P t=true)
  (he:execOp a.eval o=(do pure (Next.value (<-Instr.build t (parts.map λ(i,x)=>(i,a.eval x))))))
  (hr:CH C γ0 w0 γ Z U h a w) {args:List Aa} (ha:Be C U (parts.toList.map (·.2))=some args):GZ C.P γ a o w (.B4 z.cells ps) args:=by
 intro u hu;obtain⟨r,c,b⟩:=mR (w:=w) hz hp hb (Ds hr ha) hu;exact⟨r,by rw[he];exact Et c,b⟩
def Xm{o:Oper}{x:Operand}(ho:o.op= .nilCheck x)(hr:CH C γ0 w0 γ Z U h a w){args:List Aa}(ha:Be C U [x]=some args):GZ C.P γ a o w .KC args:=by
 intro u hu;obtain⟨v,rfl,h1⟩:=FZ hr ha;simp only[Ay,YV] at hu;split at hu;.rename_i p;cases hu;obtain⟨i,k⟩:=p;obtain⟨b,hb,hv⟩:=h1;exact⟨_,by simp only[execOp,ho,hv];rfl,b,hb,rfl⟩
 .cases hu;obtain⟨b,k,hv,hm⟩:=h1;exact⟨_,by simp only[execOp,ho,hv];rfl,b,k,rfl,hm⟩
 .cases hu;obtain⟨fs,cs,hv,p,q⟩:=h1;exact⟨_,by simp only[execOp,ho,hv];rfl,fs,cs,rfl,p,q⟩
 .cases hu
def LG:∀{xs:List Operand} {us:List Aa},Be C U xs=some us->us.length=xs.length
 |[],us,h=>by cases h;rfl
 |x::xs,us,h=>by
  unfold Be at h;split at h;.rename_i u C6 h1 h2;cases h;simp[LG h2]
  .cases h
def ML{P:Program}{o:Oper}{c:Call}{b:Builtin}{s:Sem Value}(ho:o.op= .call c)(hc:c.callee= .builtin b)(hs:builtin b c.argTypes o.type (c.args.map λ| .const _=>true|_=>false) (c.args.map a.eval)=(do pure (Next.value (<-s)))){v:Value}
  (hv:s.run P w= .ok v w):(execOp a.eval o).run P w= .ok (.value v) w:=by
 have:execOp a.eval o=(do pure (Next.value (<-s))):=by rw[<-hs];simp only[execOp,ho,resolve,hc];rfl
 rw[this];exact Et hv
def V6{o:Oper}{c:Call}{t:TypeId}{isStr:Bool}(ho:o.op= .call c)(hc:c.callee= .builtin .len)(h0:c.argTypes[0]?=some t)(ht:if isStr=true then C.P.underlying t=some .string else∃e,C.P.underlying t=some (.slice e))
  (hr:CH C γ0 w0 γ Z U h a w) {args:List Aa} (ha:Be C U c.args.toList=some args):GZ C.P γ a o w (.len isStr) args:=by
 intro u hu;simp only[Ay] at hu;split at hu
 .rename_i s;have hl:=LG ha;obtain⟨x,hx⟩:∃x,c.args.toList=[x]:=y_.1 hl.symm;rw[hx] at ha;obtain⟨_,e,h1⟩:=FZ hr ha;cases e;obtain⟨r,d,b⟩:=yP (P:=C.P) (w:=w) (ty:=o.type) ht h0 h1 hu;have e:c.args.map a.eval=#[a.eval x]:=by apply GC;simp[hx]
  exact⟨r,ML ho hc (s:=Builtin.len_ c.argTypes o.type #[a.eval x]) (by rw[e];rfl) d,b⟩
 .cases hu
def PY{o:Oper}{c:Call}{isMax:Bool}(ho:o.op= .call c)(hc:c.callee= .builtin (if isMax then .max else .min))(hr:CH C γ0 w0 γ Z U h a w){args:List Aa}(ha:Be C U c.args.toList=some args):GZ C.P γ a o w (.J5 isMax) args:=by
 intro u hu;simp only[Ay] at hu;split at hu
 .rename_i k p l q;split at hu
  .rename_i hk;subst hk;cases hu;have hl:=LG ha;obtain⟨x,y,hx⟩:∃x y,c.args.toList=[x,y]:=by
    cases hq:c.args.toList with
    |nil=>rw[hq] at hl;simp at hl
    |cons x xs=>cases xs with
     |nil=>rw[hq] at hl;simp at hl
     |cons y ys=>cases ys with
      |nil=>exact⟨x,y,rfl⟩
      |cons _ _=>rw[hq] at hl;simp at hl
   rw[hx] at ha;obtain⟨_,_,e,h1,h2⟩:=ED hr ha;cases e;have e:c.args.map a.eval=#[.int k p,.int k q]:=by apply GC;simp[hx,Ea h1,Ea h2]
   cases isMax with
   |true=>exact⟨_,ML ho hc (s:=Builtin.max_ c.argTypes o.type #[.int k p,.int k q]) (by rw[e];rfl) (by simp[Builtin.max_,Builtin.max2]),rfl⟩
   |false=>exact⟨_,ML ho hc (s:=Builtin.min_ c.argTypes o.type #[.int k p,.int k q]) (by rw[e];rfl) (by simp[Builtin.min_,Builtin.min2]),rfl⟩
  .cases hu
 .cases hu
end
end Go.Am
end
section
namespace Go.Am
open Go
section
variable{C:FC}{γ0 γ:Gh}{w0 w:World}{Z:Nat->Nat}{U:Bx}{h:Ah}{a:Act}{fid:FuncId}{ops:List Oper}
def Lg{x:Operand}{d:Nat}{take:Bool}{r:Ei}(h:Ji C U x d take=some r):∃ws,r= .pure ws:=by
 unfold Ji at h;split at h;.cases h;exact⟨_,rfl⟩
 .cases h;exact⟨_,rfl⟩
 .split at h;.cases h;exact⟨_,rfl⟩
  .cases hc:Hl _ with
   |none=>rw[hc] at h;cases h
   |some s=>rw[hc] at h;cases h;exact⟨_,rfl⟩
 .cases hc:Hl _ with
  |none=>rw[hc] at h;cases h
  |some s=>rw[hc] at h;cases h;exact⟨_,rfl⟩
 .cases h
def V8{t:TypeId}{v:Aa}{d:Nat}{p:Vi}{args:List Aa}{dst:Option Nat}{BE:Bool}{b:Option (Nat×Aa)}:RJ C fid t v d≠some (.op p args dst BE b):=by
 unfold RJ;intro h;split at h;.cases h
 .split at h;.cases h
  .split at h<;>cases h
def cO{t:TypeId}{x:Operand}{d:Nat}{take:Bool}{p:Vi}{args:List Aa}{dst:Option Nat}{BE:Bool}{b:Option (Nat×Aa)}:J7 C U t x d take≠some (.op p args dst BE b):=by
 unfold J7;intro h;split at h;.cases h
 .split at h;.simp only at h;split at h<;>cases h
  .cases h
 .split at h<;>cases h
 .cases h
def Za{t:TypeId}{x y:Operand}{p:Vi}{args:List Aa}{dst:Option Nat}{BE:Bool}{b:Option (Nat×Aa)}:Ic C U t x y≠some (.op p args dst BE b):=by
 unfold Ic;intro h;split at h;.cases h
 .split at h<;>cases h
 .cases h
def mV{o:Oper}{p:Vi}{args:List Aa}{dst:Option Nat}{BE:Bool}{j:Option (Nat×Aa)}(hc:Fv C fid ops U o=some (.op p args dst BE j))(HW:p.still=true)(hr:CH C γ0 w0 γ Z U h a w):
  GZ C.P γ a o w p args/\dst=o.dst/\BE=false/\j=none:=by
 unfold Fv at hc
 split at hc
 .split at hc
  .obtain⟨ws,e⟩:=Lg hc;cases e
  .cases hc
 .split at hc
  .obtain⟨ws,e⟩:=Lg hc;cases e
  .cases hc
 .rename_i c x y ho
  split at hc
  .obtain⟨ws,e⟩:=Lg hc;cases e
  .obtain⟨ws,e⟩:=Lg hc;cases e
  .obtain⟨as,g,b⟩:=Dt hc
   cases b
   exact⟨cM ho hr g,rfl,rfl,rfl⟩
 .split at hc
  .split at hc
   .split at hc<;>cases hc
   .exact absurd hc V8
  .cases hc
 .split at hc
  .exact absurd hc V8
  .cases hc
 .rename_i t parts ho
  split at hc
  .rename_i z ps hz hp
   split at hc
   .rename_i hb
    obtain⟨as,g,b⟩:=Dt hc
    cases b
    exact⟨Y9 hz hp hb (by simp[execOp,ho]) hr g,rfl,rfl,rfl⟩
   .cases hc
  .cases hc
 .split at hc
  .split at hc
   .split at hc
    .split at hc
     .cases hc;cases HW
     .cases hq:Be C U _ with
      |none=>rw[hq] at hc;cases hc
      |some q=>rw[hq] at hc;cases hc;cases HW
    .cases hc
   .cases hc
  .cases hc
 .split at hc
  .exact absurd hc cO
  .cases hc
 .split at hc
  .exact absurd hc Za
  .cases hc
 .rename_i x ho
  split at hc
  .cases hc
  .cases hc
  .obtain⟨as,g,b⟩:=Dt hc
   cases b
   exact⟨Xm ho hr g,rfl,rfl,rfl⟩
 .rename_i op t x y k ho
  split at hc
  .rename_i q hq
   obtain⟨as,g,b⟩:=Dt hc
   cases b
   exact⟨mS hq (by simp[execOp,ho]) hr g,rfl,rfl,rfl⟩
  .cases hc
 .rename_i op t x ho
  obtain⟨as,g,b⟩:=Dt hc
  cases b
  exact⟨rE (by simp[execOp,ho]) hr g,rfl,rfl,rfl⟩
 .rename_i src aBy x ho
  split at hc
  .cases hq:Ex C U x with
   |none=>rw[hq] at hc;cases hc
   |some q=>rw[hq] at hc;cases hc
  .split at hc
   .cases hq:Ex C U x with
    |none=>rw[hq] at hc;cases hc
    |some q=>rw[hq] at hc;cases hc
   .obtain⟨as,g,b⟩:=Dt hc
    cases b;cases HW
  .rename_i q PF Vq hq
   obtain⟨as,g,b⟩:=Dt hc
   cases b
   refine⟨?_,rfl,rfl,rfl⟩
   unfold Tp at hq
   split at hq
   .rename_i hs hd
    cases hq
    exact cN hs hd (by simp[execOp,ho]) hr g
   .rename_i hs hd
    cases hq
    exact mT hs hd (by simp[execOp,ho]) hr g
   .cases hq
   .split at hq
    .cases hq;cases HW
    .cases hq
   .split at hq
    .cases hq;cases HW
    .cases hq
   .cases hq
  .cases hc
 .split at hc
  .cases hc
  .cases hc
 .cases hc
 .split at hc
  .split at hc<;>cases hc
  .cases hc
 .split at hc
  .split at hc<;>cases hc
  .cases hc
 .split at hc
  .split at hc<;>cases hc
  .cases hc
 .split at hc
  .split at hc<;>cases hc
  .cases hc
 .split at hc
  .split at hc
   .exact absurd hc JN
   .cases hc
  .cases hc
 .split at hc
  .cases hc
  .exact absurd hc JN
  .cases hc
 .split at hc
  .split at hc<;>first|exact absurd hc JN|cases hc
  .cases hc
 .split at hc
  .exact absurd hc JN
  .cases hc
 .rename_i t x lo hi ho
  split at hc
  .rename_i ht
   obtain⟨as,g,b⟩:=Dt hc
   cases b
   exact⟨RN (isStr:=true) ht (by simp[execOp,ho]) hr g,rfl,rfl,rfl⟩
  .rename_i e ht
   split at hc
   .rename_i n hn
    split at hc
    .exact absurd hc JN
    .obtain⟨as,g,b⟩:=Dt hc
     cases b
     exact⟨RN (isStr:=false) ⟨e,ht,hn⟩ (by simp[execOp,ho]) hr g,rfl,rfl,rfl⟩
   .cases hc
  .cases hc
 .rename_i t x f ho
  split at hc
  .rename_i off l d hf hd
   split at hc
   .cases hc
   .cases hc
   .obtain⟨as,g,b⟩:=Dt hc
    cases b
    exact⟨Sx hf (by simp[execOp,ho]) hr g,hd.symm,rfl,rfl⟩
  .cases hc
 .rename_i t x f ho
  split at hc
  .rename_i off l hf
   obtain⟨as,g,b⟩:=Dt hc
   cases b
   exact⟨Y8 hf (by simp[execOp,ho]) hr g,rfl,rfl,rfl⟩
  .cases hc
 .rename_i t x i ho
  split at hc
  .rename_i e ht
   split at hc
   .rename_i n hn
    obtain⟨as,g,b⟩:=Dt hc
    cases b
    exact⟨TB ht hn (by simp[execOp,ho]) hr g,rfl,rfl,rfl⟩
   .cases hc
  .rename_i len e ht
   split at hc
   .rename_i n hn
    split at hc
    .cases hc
    .obtain⟨as,g,b⟩:=Dt hc
     cases b
     exact⟨Vp ht hn (by simp[execOp,ho]) hr g,rfl,rfl,rfl⟩
   .cases hc
  .cases hc
 .rename_i t x i ho
  split at hc
  .rename_i ht
   obtain⟨as,g,b⟩:=Dt hc
   cases b
   exact⟨Sy ht (by simp[execOp,ho]) hr g,rfl,rfl,rfl⟩
  .rename_i len e ht
   split at hc
   .rename_i n l hn bL
    obtain⟨as,g,b⟩:=Dt hc
    cases b
    exact⟨SB ht hn bL (by simp[execOp,ho]) hr g,rfl,rfl,rfl⟩
   .cases hc
  .cases hc
 .rename_i x i ho
  obtain⟨as,g,b⟩:=Dt hc
  cases b
  exact⟨mU (by simp[execOp,ho]) hr g,rfl,rfl,rfl⟩
 .rename_i c ho
  unfold O3 at hc
  split at hc
  .rename_i hcl
   split at hc
   .rename_i t h0
    split at hc
    .rename_i ht
     obtain⟨as,g,b⟩:=Dt hc
     cases b
     exact⟨V6 (isStr:=true) ho hcl h0 ht hr g,rfl,rfl,rfl⟩
    .rename_i e ht
     obtain⟨as,g,b⟩:=Dt hc
     cases b
     exact⟨V6 (isStr:=false) ho hcl h0 ⟨e,ht⟩ hr g,rfl,rfl,rfl⟩
    .cases hc
   .cases hc
  .split at hc
   .split at hc
    all_goals first
     |(cases hc;done)
     | (split at hc
        . split at hc
          . split at hc
            . split at hc
              . split at hc
                . cases hc
                . split at hc
                  . cases hc
                  . cases hc; cases HW
              . split at hc <;> cases hc
            . cases hc
          . cases hc
        . cases hc)
   .cases hc
  .split at hc
   .split at hc
    all_goals first
     |(cases hc;done)
     | (split at hc
        . exact absurd hc JN
        . cases hc)
   .cases hc
  .split at hc
   .split at hc
    .split at hc
     .exact absurd hc JN
     .cases hc
    .cases hc
   .cases hc
  .rename_i hcl
   split at hc
   .obtain⟨as,g,b⟩:=Dt hc
    cases b
    exact⟨PY (isMax:=true) ho hcl hr g,rfl,rfl,rfl⟩
   .cases hc
  .rename_i hcl
   split at hc
   .obtain⟨as,g,b⟩:=Dt hc
    cases b
    exact⟨PY (isMax:=false) ho hcl hr g,rfl,rfl,rfl⟩
   .cases hc
  .split at hc
   .split at hc
    .split at hc
     .exact absurd hc JN
     .cases hc
    .cases hc
   split at hc
   .cases hq:Be C U c.args.toList with
    |none=>rw[hq] at hc;cases hc
    |some q=>
     rw[hq] at hc
     simp only[BU,BB] at hc
     split at hc<;>cases hc
   .cases hc
  .split at hc<;>cases hc
  .cases hc
 .cases hc
end
end Go.Am
end
