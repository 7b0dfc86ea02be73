/- Lemmas -/
import Derived.Test.YtkaolmlpcamojaaGreatDoorC2
import Derived.Laws.Slices
set_option linter.all false
section
namespace Go.Am
open Go
section
variable{P:Program}{γ:Gh}{w:World}
def Su{a:Bool}{v:Value}(h:BQ γ (.bool a) v):v= .bool a:=h
def Ez{k:IntKind}{a:Int}{v:Value}(h:BQ γ (.int k a) v):v= .int k a:=h
def Ol{a:Ai}{v:Value}(h:BQ γ (.str a) v):v= .string ⟨⟨a⟩⟩:=h
def Bj.O_{us:List Value}(h:Bj γ [] us):us=[]:=h
def Bj.Mk{a:Aa}{l:List Aa}{us:List Value}(h:Bj γ (a::l) us):∃u DT,us=u::DT/\BQ γ a u/\Bj γ l DT:=h
def Bj.one{a:Aa}{us:List Value}(h:Bj γ [a] us):∃u,us=[u]/\BQ γ a u:=by obtain⟨u,DT,rfl,h1,h2⟩:=h;rw[h2.O_];exact⟨u,rfl,h1⟩
def Bj.QR{a b:Aa}{us:List Value}(h:Bj γ [a,b] us):∃u v,us=[u,v]/\BQ γ a u/\BQ γ b v:=by obtain⟨u,DT,rfl,h1,h2⟩:=h;obtain⟨v,rfl,c⟩:=h2.one;exact⟨u,v,rfl,h1,c⟩
def Bj.UF{a b c:Aa}{us:List Value}(h:Bj γ [a,b,c] us):∃u v x,us=[u,v,x]/\BQ γ a u/\BQ γ b v/\BQ γ c x:=by obtain⟨u,DT,rfl,h1,h2⟩:=h;obtain⟨v,x,rfl,e,d⟩:=h2.QR;exact⟨u,v,x,rfl,h1,e,d⟩
def Value.Kh:Value->Bool
 | .bool _| .pointer _| .slice _ _ _| .func _ _ _| .nilFunc| .map _=>true
 |_=>false
def TV{op:BinOp}{neg:Bool}(Oc:(op= .eql/\neg=false)\/(op= .neq/\neg=true))(t:TypeId)(c b:Operand){x y:Value}(hx:Value.Kh x=true)(hy:Value.Kh y=true){e:Bool}
  (he:(Op.equal t x y).run P w= .ok e w):(do eqGuard op t c b x y;binOp op t x y:Sem Value).run P w= .ok (.bool (e != neg)) w:=by
 have hg:eqGuard op t c b x y=pure ():=by rcases Oc with⟨rfl,_⟩|⟨rfl,_⟩<;>cases x<;>simp[Value.Kh] at hx<;>rfl
 rw[hg];rcases Oc with⟨rfl,rfl⟩|⟨rfl,rfl⟩
 .have hb:binOp .eql t x y=(do pure (.bool (<-Op.equal t x y))):=by cases x<;>simp[Value.Kh] at hx<;>cases y<;>simp[Value.Kh] at hy<;>rfl
  simp[hb,he]
 .have hb:binOp .neq t x y=(do pure (.bool (!(<-Op.equal t x y)))):=by cases x<;>simp[Value.Kh] at hx<;>cases y<;>simp[Value.Kh] at hy<;>rfl
  simp[hb,he]
def mC{op:BinOp}{neg:Bool}(Oc:(op= .eql/\neg=false)\/(op= .neq/\neg=true))(t:TypeId)(d c:Operand)(ht:P.underlying t=some .bool)(a b:Bool):
  (do eqGuard op t d c (.bool a) (.bool b);binOp op t (.bool a) (.bool b):Sem Value).run P w= .ok (.bool ((a==b) != neg)) w:=
 TV Oc t d c rfl rfl (run_equalIn_bool' w 9999 t a b ht)
def Vx{d:Nat}{t e:TypeId}(ht:P.underlying t=some (.pointer e))(hz:∃n,B4 P e=some (n+1)){a b:Aa}{x y:Value}(hx:BQ γ a x)(hy:BQ γ b y){r:Bool}(h:wT a b=some r):
  (Op.equalIn (d+1) t x y).run P w= .ok r w/\Value.Kh x=true/\Value.Kh y=true:=by
 obtain⟨n,hn⟩:=hz;unfold wT at h;split at h
 .rename_i q;cases h;rw[show x= .pointer none from hx];have:∃p,y= .pointer p/\p.isNone=q.isNone:=by
   cases q with
   |none=>exact⟨none,hy,rfl⟩
   |some p=>obtain⟨i,o⟩:=p;obtain⟨b,_,rfl⟩:=hy;exact⟨_,rfl,rfl⟩
  obtain⟨p,rfl,hp⟩:=this;exact⟨by simp[Op.equalIn,run_underlying ht,hp],rfl,rfl⟩
 .rename_i p;cases h;obtain⟨i,o⟩:=p;obtain⟨b,_,rfl⟩:=hx;rw[show y= .pointer none from hy];exact⟨by simp[Op.equalIn,run_underlying ht],rfl,rfl⟩
 .rename_i p q;split at h;.rename_i he;cases h;subst he;obtain⟨i,o⟩:=p;obtain⟨b,hb,rfl⟩:=hx;obtain⟨b',Ru,rfl⟩:=hy;rw[hb] at Ru;cases Ru;exact⟨by simp[Op.equalIn,run_underlying ht,DW hn,sameAddr],rfl,rfl⟩
  .cases h
 .cases h;rw[show x= .pointer none from hx];obtain⟨b,o,rfl,_⟩:=hy;exact⟨by simp[Op.equalIn,run_underlying ht],rfl,rfl⟩
 .cases h;rw[show y= .pointer none from hy];obtain⟨b,o,rfl,_⟩:=hx;exact⟨by simp[Op.equalIn,run_underlying ht],rfl,rfl⟩
 .cases h
def EN{d:Nat}{t e:TypeId}(ht:P.underlying t=some (.slice e)){p q:Option Addr}{n c m k:Nat}(h:p=none\/q=none):
  (Op.equalIn (d+1) t (.slice p n c) (.slice q m k)).run P w= .ok (p.isNone&&q.isNone) w:=by
 cases p<;>cases q<;>simp at h<;>simp[Op.equalIn,run_underlying ht]
def Ml{d:Nat}{t:TypeId}{a b:Array TypeId}{c:Bool}(ht:P.underlying t=some (.func a b c)){f:Fn}{x y:Array Value}:
  (Op.equalIn (d+1) t .nilFunc .nilFunc).run P w= .ok true w/\(Op.equalIn (d+1) t .nilFunc (.func f x y)).run P w= .ok false w/\(Op.equalIn (d+1) t (.func f x y) .nilFunc).run P w= .ok false w:=by
 refine⟨?_,?_,?_⟩<;>simp[Op.equalIn,run_underlying ht]
def LH{d:Nat}{t k e:TypeId}(ht:P.underlying t=some (.map k e)){p q:Option Nat}(h:p=none\/q=none):
  (Op.equalIn (d+1) t (.map p) (.map q)).run P w= .ok (p.isNone&&q.isNone) w:=by
 cases p<;>cases q<;>simp at h<;>simp[Op.equalIn,run_underlying ht]
def Vy{d:Nat}{t:TypeId}{k:NK}(ht:match k with| .sl=>∃e,P.underlying t=some (.slice e)| .fn=>∃a b c,P.underlying t=some (.func a b c)| .mp=>∃a b,P.underlying t=some (.map a b))
  {a b:Aa} {x y:Value} (hx:BQ γ a x) (hy:BQ γ b y) {r:Bool} (h:wU k a b=some r):
  (Op.equalIn (d+1) t x y).run P w= .ok r w/\Value.Kh x=true/\Value.Kh y=true:=by
 unfold wU at h;split at h;case h_1=>obtain⟨e,ht⟩:=ht;cases h;rw[show x= .slice none 0 0 from hx,show y= .slice none 0 0 from hy];exact⟨EN ht (.inl rfl),rfl,rfl⟩
 case h_2=>obtain⟨e,ht⟩:=ht;cases h;rw[show x= .slice none 0 0 from hx];obtain⟨_,_,rfl,_⟩:=hy;exact⟨EN ht (.inl rfl),rfl,rfl⟩
 case h_3=>obtain⟨e,ht⟩:=ht;cases h;rw[show y= .slice none 0 0 from hy];obtain⟨_,_,rfl,_⟩:=hx;exact⟨EN ht (.inr rfl),rfl,rfl⟩
 case h_4=>obtain⟨e,ht⟩:=ht;cases h;rw[show x= .slice none 0 0 from hx];obtain⟨_,rfl⟩:=hy;exact⟨EN ht (.inl rfl),rfl,rfl⟩
 case h_5=>obtain⟨e,ht⟩:=ht;cases h;rw[show y= .slice none 0 0 from hy];obtain⟨_,rfl⟩:=hx;exact⟨EN ht (.inr rfl),rfl,rfl⟩
 case h_6=>obtain⟨e,ht⟩:=ht;cases h;rw[show x= .slice none 0 0 from hx];obtain⟨_,_,_,rfl,_⟩:=hy;exact⟨EN ht (.inl rfl),rfl,rfl⟩
 case h_7=>obtain⟨e,ht⟩:=ht;cases h;rw[show y= .slice none 0 0 from hy];obtain⟨_,_,_,rfl,_⟩:=hx;exact⟨EN ht (.inr rfl),rfl,rfl⟩
 case h_8=>obtain⟨_,_,_,ht⟩:=ht;cases h;rw[show x= .nilFunc from hx,show y= .nilFunc from hy];exact⟨(Ml ht (f:= .func 0) (x:=#[]) (y:=#[])).1,rfl,rfl⟩
 case h_9=>obtain⟨_,_,_,ht⟩:=ht;cases h;rw[show x= .nilFunc from hx];obtain⟨_,_,rfl,_⟩:=hy;exact⟨(Ml ht).2.1,rfl,rfl⟩
 case h_10=>obtain⟨_,_,_,ht⟩:=ht;cases h;rw[show y= .nilFunc from hy];obtain⟨_,_,rfl,_⟩:=hx;exact⟨(Ml ht).2.2,rfl,rfl⟩
 case h_11=>
  rename_i q;obtain⟨_,_,ht⟩:=ht;cases h;rw[show x= .map none from hx];cases q with
  |none=>rw[show y= .map none from hy];exact⟨LH ht (.inl rfl),rfl,rfl⟩
  |some id=>obtain⟨b,_,rfl⟩:=hy;exact⟨LH ht (.inl rfl),rfl,rfl⟩
 case h_12=>obtain⟨_,_,ht⟩:=ht;cases h;rw[show y= .map none from hy];obtain⟨b,_,rfl⟩:=hx;exact⟨LH ht (.inr rfl),rfl,rfl⟩
 .cases h
def fg{op:BinOp}{args:List Aa}{u:Aa}(h:AD (.int op) args=some u):∃k a l b,args=[.int k a,.int l b]/\wS op k a l b=some u:=by
 simp only[AD] at h;split at h;.exact⟨_,_,_,_,rfl,h⟩
 .cases h
def fh{op:BinOp}{args:List Aa}{u:Aa}(h:AD (.str op) args=some u):∃a b,args=[.str a,.str b]/\lS op a b=some u:=by
 simp only[AD] at h;split at h;.exact⟨_,_,rfl,h⟩
 .cases h
def mD{op:BinOp}{t:TypeId}{p:Se}(hp:Qj P op t=some p)(f c:Operand){args:List Aa}{x y:Value}(ha:Bj γ args [x,y]){u:Aa}(h:AD p args=some u):
  ∃v,(do eqGuard op t f c x y;binOp op t x y:Sem Value).run P w= .ok v w/\BQ γ u v:=by
 unfold Qj at hp;split at hp;.cases hp;obtain⟨k,a,l,b,rfl,h⟩:=fg h;obtain⟨_,_,e,hx,hy⟩:=ha.QR;cases e;rw[Ez hx,Ez hy];exact lX t f c h
 .cases hp;obtain⟨a,b,rfl,h⟩:=fh h;obtain⟨_,_,e,hx,hy⟩:=ha.QR;cases e;rw[Ol hx,Ol hy];exact lY t f c h
 .rename_i d h1 h2 hu;obtain⟨neg,Oc,g⟩:∃neg,((op= .eql/\neg=false)\/(op= .neq/\neg=true))/\TN P t neg d=some p:=by cases op<;>first|cases hp;done|exact⟨false,.inl ⟨rfl,rfl⟩,hp⟩|exact⟨true,.inr ⟨rfl,rfl⟩,hp⟩
  clear h1 h2 hp;have hp:=g;clear g;unfold TN at hp;split at hp
  .cases hp;simp only[AD] at h;split at h;.obtain⟨_,_,e,hx,hy⟩:=ha.QR;cases e;cases h;rw[Su hx,Su hy];exact⟨_,mC Oc t f c hu _ _,rfl⟩
   .cases h
  .split at hp
   .rename_i hg;cases hk:Pu P 20 t with
    |none=>rw[hk] at hp;cases hp
    |some ks=>
     rw[hk] at hp;cases hp;simp only[AD] at h;split at h;.obtain⟨_,_,e,hx,hy⟩:=ha.QR;cases e;exact mB Oc hg hk ⟨_,hu⟩ hx hy h
     .cases h
   .cases hp
  .split at hp;.cases hp
   .rename_i e hz;cases hp;simp only[AD] at h;split at h
    .rename_i a b;obtain⟨_,_,e,hx,hy⟩:=ha.QR;cases e;cases hq:wT a b with
     |none=>rw[hq] at h;cases h
     |some r=>rw[hq] at h;cases h;obtain⟨m,j,i⟩:=Vx (w:=w) (d:=9999) hu (by cases Zq:B4 P e with|none=>rw[Zq] at hz;exact absurd rfl hz|some n=>cases n with|zero=>rw[Zq] at hz;exact absurd rfl hz|succ n=>exact⟨n,rfl⟩) hx hy hq;exact⟨_,TV Oc t f c j i m,rfl⟩
    .cases h
  all_goals first
   |cases hp;done
   | (cases hp
      simp only [AD] at h
      split at h
      . rename_i a b
        obtain ⟨_, _, e, hx, hy⟩ := ha.QR
        cases e
        cases hq : wU _ a b with
        | none => rw [hq] at h; cases h
        | some r =>
          rw [hq] at h; cases h
          obtain ⟨m, j, i⟩ := Vy (w := w) (P := P) (t := t) (d := 9999) (by first | exact ⟨_, hu⟩ | exact ⟨_, _, hu⟩ | exact ⟨_, _, _, hu⟩) hx hy hq
          exact ⟨_, TV Oc t f c j i m, rfl⟩
      . cases h)
 .cases hp
end
end Go.Am
end
section
namespace Go.Am
open Go
section
variable{P:Program}{γ:Gh}{w:World}
def aBM{op:UnOp}{a u:Aa}{x:Value}(hx:BQ γ a x)(h:aBC op a=some u):∃v,(Op.unary op x).run P w= .ok v w/\BQ γ u v:=by
 unfold aBC at h;split at h;.cases h;rw[Su hx];exact⟨_,rfl,rfl⟩
 .cases h;rw[Ez hx];exact⟨_,rfl,rfl⟩
 .rename_i k n;rw[Ez hx];unfold aAg at h;cases hs:Qh (Op.unary .xor (.int k n)) with
  |none=>rw[hs] at h;cases h
  |some v=>
   rw[hs] at h;have b:=Xl hs;simp only[Cw] at h;split at h;.cases h;exact⟨_,by rw[b];rfl,rfl⟩
   .cases h
 .cases h
def cM{src dst:TypeId}{k l k':IntKind}{n:Int}(hs:P.underlying src=some (.int l))(hd:P.underlying dst=some (.int k)):(convert src dst (.int k' n)).run P w= .ok (.int k (k.wrap n)) w:=by simp[convert,run_underlying hs,run_underlying hd,Conv.intToInt]
def cN{src dst:TypeId}{l k':IntKind}{n:Int}(hs:P.underlying src=some (.int l))(hd:P.underlying dst=some .string):(convert src dst (.int k' n)).run P w= .ok (.string (Utf8.encode n)) w:=by simp[convert,run_underlying hs,run_underlying hd,Conv.intToString]
def fj{t:TypeId}{f off:Nat}{sh:Option Nat}(hf:IB P t f=some (off,sh)){cs:List Aa}{x:Value}(hx:BQ γ (.agg cs) x){u:Aa}(h:Ft cs off sh=some u):∃v,(Instr.field t x f).run P w= .ok v w/\BQ γ u v:=by
 unfold IB at hf;split at hf
 .rename_i fs hu;split at hf
  .rename_i fd xM;split at hf;.rename_i n b h1 h2;cases hf;obtain⟨us,rfl,hr,h1c⟩:=hx;obtain⟨v,p,q⟩:=lZ (w:=w) h2 hr h1c h;exact⟨v,by simp[Instr.field,run_underlying hu,xM,asAgg,p],q⟩
   .cases hf
  .cases hf
 .cases hf
def Rx{i:Int}{len j:Nat}(h:Me i len=some j):0<=i/\i<len/\i.toNat=j:=by
 unfold Me at h;split at h;.rename_i hc;cases h;exact⟨hc.1,hc.2,rfl⟩
 .cases h
def Zr{t e:TypeId}{len n:Nat}{sh:Option Nat}(ht:P.underlying t=some (.array len e))(hn:B4 P e=some n)(qQ:Fq P e=some sh){cs:List Aa}{x:Value}(hx:BQ γ (.agg cs) x){k:IntKind}{i:Int}{j:Nat}
  (hi:Me i len=some j) {u:Aa} (h:Ft cs (j*n) sh=some u):∃v,(Instr.index t x (.int k i)).run P w= .ok v w/\BQ γ u v:=by
 obtain⟨us,rfl,hr,h1c⟩:=hx;obtain⟨d,c,b⟩:=Rx hi;obtain⟨v,p,q⟩:=lZ (w:=w) qQ hr h1c h;exact⟨v,by simp[Instr.index,asIntOf,run_underlying ht,d,c,DW hn,b,p],q⟩
def Zs{t:TypeId}(ht:P.underlying t=some .string){s:Ai}{k:IntKind}{i:Int}{b:UInt8}(h0:0<=i)(h:s[i.toNat]?=some b):
  (Instr.index t (.string ⟨⟨s⟩⟩) (.int k i)).run P w= .ok (.int .u8 b.toNat) w:=by
 obtain⟨hlt,hb⟩:=Ak.1 h;have e:(⟨⟨s⟩⟩:ByteArray)[i.toNat]?=some b:=by rw[ByteArray.getElem?_lt' _ _ (show i.toNat<(⟨⟨s⟩⟩:ByteArray).size from hlt),<-hb];rfl
 simp[Instr.index,asIntOf,run_underlying ht,h0,e]
def xN{p u:Aa}{x:Value}{n:Nat}(hx:BQ γ p x)(h:WW p n=some u):∃a,x= .pointer (some a)/\BQ γ u (.pointer (some (a.add n))):=by
 unfold WW at h;split at h;.rename_i cs;cases h;obtain⟨b,o,rfl,hm⟩:=hx;refine⟨_,rfl,b,o+n,?_,hm.drop n⟩;unfold Addr.add;split<;>simp_all
 .rename_i id o;cases h;obtain⟨b,hb,rfl⟩:=hx;refine⟨_,rfl,b,hb,?_⟩;unfold Addr.add;split<;>simp_all
 .cases h
def mE{t:TypeId}{f off:Nat}{sh:Option Nat}(hf:IB P t f=some (off,sh)){p u:Aa}{x:Value}(hx:BQ γ p x)(h:WW p off=some u):∃v,(Instr.fieldAt t x f).run P w= .ok v w/\BQ γ u v:=by
 obtain⟨a,rfl,hu⟩:=xN hx h;refine⟨_,?_,hu⟩;unfold IB at hf;split at hf
 .rename_i fs xL;split at hf
  .rename_i fd xM;split at hf;.rename_i n b h1 h2;cases hf;simp[Instr.fieldAt,run_underlying xL,xM,Instr.sureAddr,fieldPlace,DW h1]
   .cases hf
  .cases hf
 .cases hf
def rN{t e:TypeId}{n:Nat}(ht:P.underlying t=some (.slice e))(hn:B4 P e=some n){s u:Aa}{x:Value}(hx:BQ γ s x){k:IntKind}{i:Int}(h:elemOf n s i=some u):
  ∃v,(Instr.indexAt t x (.int k i)).run P w= .ok v w/\BQ γ u v:=by
 have Gc:P.underlying t=some (.slice (P.elem t)):=by simp[Program.elem,ht]
 have he:P.elem t=e:=by simp[Program.elem,ht]
 unfold elemOf at h;split at h
 .rename_i z AE;split at h
  .rename_i hz;subst hz;split at h
   .rename_i h0;cases hr:AE[i.toNat]? with
    |none=>rw[hr] at h;cases h
    |some row=>
     rw[hr] at h;cases h;obtain⟨d,cap,rfl,hc,hsp,hm⟩:=hx;obtain⟨hl,c⟩:=hm.get hr;have hlt:i<AE.length:=by have:=(Ak.1 hr).1;omega
     have rO:=Oh hsp hc Ab;generalize d.block=b at*;generalize d.off=o at*;subst rO;refine⟨.pointer (some ((⟨b,o,none⟩:Addr).add (i.toNat*z))),by rw[run_indexAt_slice w t _ _ _ _ _ Gc,Af ⟨h0,hlt⟩,he,DW hn];rfl,b,o+i.toNat*z,?_,c⟩;unfold Addr.add;split<;>simp_all
   .cases h
  .cases h
 .rename_i id off len z;split at h
  .rename_i hz;subst hz;cases hj:Me i len with
   |none=>rw[hj] at h;cases h
   |some j=>rw[hj] at h;cases h;obtain⟨l,g,f⟩:=Rx hj;subst f;obtain⟨b,cap,hb,rfl,hc,hz⟩:=hx;refine⟨.pointer (some ((⟨b,off,none⟩:Addr).add (i.toNat*z))),by rw[run_indexAt_slice w t _ _ _ _ _ Gc,Af ⟨l,g⟩,he,DW hn];rfl,b,hb,?_⟩;unfold Addr.add;split<;>simp_all
  .cases h
 .cases h
def fk{t e:TypeId}{len n:Nat}(ht:P.underlying t=some (.array len e))(hn:B4 P e=some n){p u:Aa}{x:Value}(hx:BQ γ p x){k:IntKind}{i:Int}{j:Nat}(hj:Me i len=some j)(h:WW p (j*n)=some u):
  ∃v,(Instr.indexAt t x (.int k i)).run P w= .ok v w/\BQ γ u v:=by
 have Gc:P.underlying t=some (.array (P.arrayLen t) (P.elem t)):=by simp[Program.elem,Program.arrayLen,ht]
 have he:P.elem t=e:=by simp[Program.elem,ht]
 have hl:P.arrayLen t=len:=by simp[Program.arrayLen,ht]
 obtain⟨a,rfl,hu⟩:=xN hx h;obtain⟨d,c,b⟩:=Rx hj;subst b;exact⟨_,by rw[run_indexAt_array w t _ _ _ Gc,hl,Af ⟨d,c⟩,he,DW hn];rfl,hu⟩
def P_{t ty:TypeId}{isStr:Bool}(ht:if isStr=true then P.underlying t=some .string else∃e,P.underlying t=some (.slice e)){ts:Array TypeId}(cO:ts[0]?=some t){s u:Aa}{x:Value}(hx:BQ γ s x)(h:lenOf isStr s=some u):
  ∃v,(Builtin.len_ ts ty #[x]).run P w= .ok v w/\BQ γ u v:=by
 cases isStr with
 |true=>
  replace ht:P.underlying t=some .string:=ht;unfold lenOf at h;split at h<;>first|cases h;done|skip
  simp only[BN] at h;cases h;rw[Ol hx];refine⟨_,by simp[Builtin.len_,cO,run_underlying ht];rfl,rfl⟩
 |false=>
  obtain⟨e,ht⟩:∃e,P.underlying t=some (.slice e):=ht;unfold lenOf at h;split at h;.cases h;obtain⟨c,cap,rfl,_⟩:=hx;exact⟨_,by simp[Builtin.len_,cO,run_underlying ht];rfl,rfl⟩
  .cases h;obtain⟨b,cap,_,rfl,_⟩:=hx;exact⟨_,by simp[Builtin.len_,cO,run_underlying ht];rfl,rfl⟩
  .cases h;rw[show x= .slice none 0 0 from hx];exact⟨_,by simp[Builtin.len_,cO,run_underlying ht];rfl,rfl⟩
  .cases h;obtain⟨b,rfl⟩:=hx;exact⟨_,by simp[Builtin.len_,cO,run_underlying ht];rfl,rfl⟩
  .cases h
  .cases h
def Q_{vs:List Aa}{x:Value}(hx:BQ γ (.tuple vs) x){i:Nat}{u:Aa}(h:vs[i]?=some u):∃v,(Instr.extract x i).run P w= .ok v w/\BQ γ u v:=by
 obtain⟨us,rfl,hr⟩:=hx;obtain⟨v,hv,q⟩:=hr.get h;exact⟨v,by
  have:us[i]?=some v:=by simpa using hv
  simp[Instr.extract,this],q⟩
end
end Go.Am
end
section
namespace Go.Am
open Go
section
variable{P:Program}{γ:Gh}{w:World}
def Om{n:Int}{top j:Nat}(h:Fm n top=some j):0<=n/\n<=top/\n.toNat=j:=by
 unfold Fm at h;split at h;.rename_i hc;cases h;exact⟨hc.1,hc.2,rfl⟩
 .cases h
def KN{lo hi:Option Value}{as:List Aa}{len cap l h:Nat}{isSlice:Bool}(hb:Ed lo.isSome hi.isSome len as=some (l,h))(hr:Bj γ as (lo.toList++hi.toList))(hc:len<=cap):
  (Instr.sliceBounds isSlice len cap lo hi none).run P w= .ok (l,h,cap) w/\l<=h/\h<=len:=by
 cases lo<;>cases hi<;>simp only[Option.isSome,Ed] at hb
 .split at hb;.cases hb;exact⟨by simp[Instr.sliceBounds],AV _,Ag _⟩
  .cases hb
 .rename_i hv;split at hb
  .rename_i k h';cases b:Fm h' len with
   |none=>rw[b] at hb;cases hb
   |some j=>rw[b] at hb;cases hb;obtain⟨f,g,d⟩:=Om b;obtain⟨_,e,hx⟩:=hr.one;cases e;rw[Ez hx];refine⟨?_,AV _,Ab⟩;have:h'<=(cap:Int):=Ab;simp[Instr.sliceBounds,run_sliceBound,f,this,d]
  .cases hb
 .rename_i p;split at hb
  .rename_i k l';cases b:Fm l' len with
   |none=>rw[b] at hb;cases hb
   |some j=>rw[b] at hb;cases hb;obtain⟨f,g,d⟩:=Om b;obtain⟨_,e,hx⟩:=hr.one;cases e;rw[Ez hx];refine⟨?_,Ab,Ag _⟩;simp[Instr.sliceBounds,run_sliceBound,f,g,d]
  .cases hb
 .rename_i p hv;split at hb
  .rename_i k l' k' h';cases b:Fm h' len with
   |none=>rw[b] at hb;cases hb
   |some j=>
    rw[b] at hb;simp only[Cw] at hb;cases c:Fm l' j with
    |none=>rw[c] at hb;cases hb
    |some i=>rw[c] at hb;cases hb;obtain⟨f,g,d⟩:=Om b;obtain⟨o,n,m⟩:=Om c;obtain⟨_,_,e,hx,hy⟩:=hr.QR;cases e;rw[Ez hx,Ez hy];refine⟨?_,Ab,Ab⟩;have:h'<=(cap:Int):=Ab;simp[Instr.sliceBounds,run_sliceBound,f,this,o,d,m,n]
  .cases hb
def E5.slice{AE:List (List Aa)}{z b o:Nat}(h:E5 γ AE z b o)(l k:Nat):E5 γ ((AE.take k).drop l) z b (o+l*z):=by
 refine E5.Hd λi r hi=>?_;rw[Ct,Ci] at hi;split at hi;.obtain⟨p,q⟩:=h.get hi;exact⟨p,by rw[show o+l*z+i*z=o+(l+i)*z by rw[BH];omega];exact q⟩
 .cases hi
def R_{t:TypeId}{isStr:Bool}{size:Nat}(ht:if isStr=true then P.underlying t=some .string else∃e,P.underlying t=some (.slice e)/\B4 P e=some size){s u:Aa}{x:Value}(hx:BQ γ s x){as:List Aa}{lo hi:Option Value}
  (hr:Bj γ as (lo.toList++hi.toList)) (h:Kd size isStr lo.isSome hi.isSome s as=some u):
  ∃v,(Instr.sliceAt t x lo hi none).run P w= .ok v w/\BQ γ u v:=by
 unfold Kd at h;split at h
 .split at h
  .rename_i s QS;subst QS;replace ht:P.underlying t=some .string:=ht;cases hb:Ed lo.isSome hi.isSome s.length as with
   |none=>rw[hb] at h;cases h
   |some f=>
    obtain⟨l,k⟩:=f;rw[hb] at h;cases h;obtain⟨c,i,g⟩:=KN (P:=P) (w:=w) (isSlice:=false) hb hr (Ag _);rw[Ol hx,run_sliceAt_string w t _ _ _ _ ht];refine⟨.string ((⟨⟨s⟩⟩:ByteArray).extract l k),?_,?_⟩;.have e:(⟨⟨s⟩⟩:ByteArray).size=s.length:=rfl;simp only[Instr.slice,Sem.run_bind,run_underlying ht,Result.andThen_ok];simp only[e,c,Option.isSome,Cj,DQ,Sem.run_bind,Sem.run_pure,Result.andThen_ok]
    .show Value.string _=Value.string _;congr 1
     apply ByteArray.ext;apply HE;simp[ByteArray.data_extract,HV,List.drop_take]
  .cases h
 .rename_i z AE;split at h
  .rename_i hc;obtain⟨rfl,rfl⟩:=hc;obtain⟨e,ht,hn⟩:∃e,P.underlying t=some (.slice e)/\B4 P e=some z:=ht;have Gc:P.underlying t=some (.slice (P.elem t)):=by simp[Program.elem,ht]
   have he:P.elem t=e:=by simp[Program.elem,ht]
   obtain⟨d,cap,rfl,hc,hsp,hm⟩:=hx;cases hb:Ed lo.isSome hi.isSome AE.length as with
   |none=>rw[hb] at h;cases h
   |some f=>
    obtain⟨l,k⟩:=f;rw[hb] at h;cases h;obtain⟨c,i,g⟩:=KN (P:=P) (w:=w) (isSlice:=true) hb hr hc;rw[run_sliceAt_slice w t _ _ _ _ Gc,run_slice_any w t _ _ _ Gc,c,he,Result.andThen_ok,DW hn];refine⟨_,rfl,?_⟩;show BQ γ (.sl z ((AE.take k).drop l)) (.slice (if cap=l then some d else Option.map (λq:Addr=>q.add (l*z)) (some d)) (k-l) (cap-l));have hlen:((AE.take k).drop l).length=k-l:=Ei;by_cases hcl:cap=l;.have:(AE.take k).drop l=[]:=Dy Ab;rw[this];simp only[hcl,BN];exact⟨d,l-l,Ei,AH,.inr Ab,trivial⟩
    .rw[Ad hcl];have rO:d=⟨d.block,d.off,none⟩:=by
      rcases hsp with hsp|hsp
      .cases d;simp_all
      .omega
     generalize d.block=b at*;generalize d.off=o at*;subst rO;refine⟨⟨b,o+l*z,none⟩,cap-l,?_,Ab,.inl rfl,hm.slice l k⟩;rw[hlen];simp only[B0];unfold Addr.add;split<;>simp_all
  .cases h
 .rename_i id off n z;split at h
  .rename_i hc;obtain⟨rfl,rfl⟩:=hc;obtain⟨e,ht,hn⟩:∃e,P.underlying t=some (.slice e)/\B4 P e=some z:=ht;have Gc:P.underlying t=some (.slice (P.elem t)):=by simp[Program.elem,ht]
   have he:P.elem t=e:=by simp[Program.elem,ht]
   obtain⟨b,cap,S_,rfl,hc,hz,K5⟩:=hx;cases hb:Ed lo.isSome hi.isSome n as with
   |none=>rw[hb] at h;cases h
   |some f=>
    obtain⟨l,k⟩:=f;rw[hb] at h;simp only[Cw] at h;split at h
    .rename_i rP;cases h;obtain⟨c,i,g⟩:=KN (P:=P) (w:=w) (isSlice:=true) hb hr hc;rw[run_sliceAt_slice w t _ _ _ _ Gc,run_slice_any w t _ _ _ Gc,c,he,Result.andThen_ok,DW hn];refine⟨_,rfl,b,cap-l,S_,?_,Ab,⟨hz.1,Bs (Nat.sub_le _ _) hz.2⟩,?_⟩;.show Value.slice (if cap=l then some ⟨b,off,none⟩ else Option.map (λq:Addr=>q.add (l*z)) (some ⟨b,off,none⟩)) (k-l) (cap-l)=_;rw[Ad Ab];simp only[B0];unfold Addr.add;split<;>simp_all
     .rw[K5,R4,<-BH,aKw Ab]
    .rename_i rP;cases h;obtain⟨c,i,g⟩:=KN (P:=P) (w:=w) (isSlice:=true) hb hr hc;rw[run_sliceAt_slice w t _ _ _ _ Gc,run_slice_any w t _ _ _ Gc,c,he,Result.andThen_ok,DW hn];have Ql:k-l=0:=Ab;by_cases hcl:cap=l;.refine⟨_,rfl,⟨b,off,none⟩,cap-l,?_,AH,.inl rfl,trivial⟩;show Value.slice (if cap=l then some ⟨b,off,none⟩ else Option.map (λq:Addr=>q.add (l*z)) (some ⟨b,off,none⟩)) (k-l) (cap-l)=_;rw[Af hcl,Ql];rfl
     .refine⟨_,rfl,(Addr.mk b off none).add (l*z),cap-l,?_,AH,.inl ?_,trivial⟩;.show Value.slice (if cap=l then some ⟨b,off,none⟩ else Option.map (λq:Addr=>q.add (l*z)) (some ⟨b,off,none⟩)) (k-l) (cap-l)=_;rw[Ad hcl,Ql];rfl
      .unfold Addr.add;split<;>simp_all
  .cases h
 .split at h;.cases h
  .rename_i QS;have QS:isStr=false:=by simpa using QS
   subst QS;obtain⟨e,ht,hn⟩:∃e,P.underlying t=some (.slice e)/\B4 P e=some size:=ht;have Gc:P.underlying t=some (.slice (P.elem t)):=by simp[Program.elem,ht]
   have he:P.elem t=e:=by simp[Program.elem,ht]
   rw[show x= .slice none 0 0 from hx];cases hb:Ed lo.isSome hi.isSome 0 as with
   |none=>rw[hb] at h;cases h
   |some f=>obtain⟨l,k⟩:=f;rw[hb] at h;cases h;obtain⟨c,i,g⟩:=KN (P:=P) (w:=w) (isSlice:=true) hb hr (Ag _);rw[run_sliceAt_slice w t _ _ _ _ Gc,run_slice_any w t _ _ _ Gc,c,he,Result.andThen_ok,DW hn];refine⟨_,rfl,?_⟩;have:l=0:=Ab;subst this;have:k=0:=Ab;subst this;rfl
 .cases h
end
end Go.Am
end
section
namespace Go.Am
open Go
section
variable{P:Program}{γ:Gh}{w:World}
def Ht{a:Aa}{v:Value}(h:BQ γ a v)(hn:0<a.cells.length):Bj γ a.cells v.cells.toList/\∀u∈v.cells.toList,u.oneCell'=true:=by
 cases a with
 |agg cs=>obtain⟨us,rfl,p,q⟩:=h;exact⟨p,q⟩
 |tuple vs=>exact absurd hn (by simp[Aa.cells])
 |bool b=>rw[show v=_ from h];exact⟨⟨_,[],rfl,rfl,rfl⟩,Ry⟩
 |int k n=>rw[show v=_ from h];exact⟨⟨_,[],rfl,rfl,rfl⟩,Ry⟩
 |str s=>rw[show v=_ from h];exact⟨⟨_,[],rfl,rfl,rfl⟩,Ry⟩
 |slnil=>rw[show v=_ from h];exact⟨⟨_,[],rfl,rfl,rfl⟩,Ry⟩
 |Gf z=>have h0:=h;obtain⟨b,rfl⟩:=h;exact⟨⟨_,[],rfl,h0,rfl⟩,Ry⟩
 |nilFunc=>rw[show v=_ from h];exact⟨⟨_,[],rfl,rfl,rfl⟩,Ry⟩
 |nilIface=>rw[show v=_ from h];exact⟨⟨_,[],rfl,rfl,rfl⟩,Ry⟩
 |ptr p=>
  have h0:=h;cases p with
  |none=>rw[show v=_ from h];exact⟨⟨_,[],rfl,rfl,rfl⟩,Ry⟩
  |some p=>obtain⟨i,o⟩:=p;obtain⟨b,_,rfl⟩:=h;exact⟨⟨_,[],rfl,h0,rfl⟩,Ry⟩
 |CH cs=>have h0:=h;obtain⟨b,o,rfl,_⟩:=h;exact⟨⟨_,[],rfl,h0,rfl⟩,Ry⟩
 |sl z AE=>have h0:=h;obtain⟨d,cap,rfl,_⟩:=h;exact⟨⟨_,[],rfl,h0,rfl⟩,Ry⟩
 |CF id off len z=>have h0:=h;obtain⟨b,cap,_,rfl,_⟩:=h;exact⟨⟨_,[],rfl,h0,rfl⟩,Ry⟩
 |map m=>
  have h0:=h;cases m with
  |none=>rw[show v=_ from h];exact⟨⟨_,[],rfl,rfl,rfl⟩,Ry⟩
  |some id=>obtain⟨b,_,rfl⟩:=h;exact⟨⟨_,[],rfl,h0,rfl⟩,Ry⟩
 |func fn f c=>have h0:=h;obtain⟨fs,cs,rfl,_⟩:=h;exact⟨⟨_,[],rfl,h0,rfl⟩,Ry⟩
 |iface t a=>have h0:=h;obtain⟨u,rfl,_⟩:=h;exact⟨⟨_,[],rfl,h0,rfl⟩,Ry⟩
def On:∀(vs:List Value) (off j:Nat) (cells:Array Value),off+j+vs.length<=cells.size->
  (vs.zipIdx j).foldl (λcs (c,i)=>cs.setIfInBounds (off+i) c) cells=(cells.toList.take (off+j)++vs++cells.toList.drop (off+j+vs.length)).toArray
 |[],off,j,cells,h=>AH
 |v::vs,off,j,cells,h=>by
  simp only[wM,my];rw[On vs off (j+1) _ (by simp at h⊢;omega)];simp only[A9] at h;have hk:off+j<cells.toList.length:=Ei;have e0:(cells.setIfInBounds (off+j) v).toList=cells.toList.set (off+j) v:=AH;have d:(cells.toList.set (off+j) v).take (off+j+1)=cells.toList.take (off+j)++[v]:=by rw[List.take_add_one,O5 (Ag _),AO hk];rfl
  have b:(cells.toList.set (off+j) v).drop (off+j+1+vs.length)=cells.toList.drop (off+j+1+vs.length):=ZU Ab;rw[e0,(Ab:off+(j+1)=off+j+1),d,b];rw[(Ei:off+j+(v::vs).length=off+j+1+vs.length)];simp
def Xn{place:Nat->Option (Nat×Nat)}:∀{places:List (Nat×Nat)} {as:List Aa} {parts:List (Nat×Value)} {cs:List Aa} {us:Array Value} {GY:List Aa},AR cs (places.zip as)=some GY->places.length=as.length->
  parts.map (λp=>place p.1)=places.map some->Bj γ as (parts.map (·.2))->Bj γ cs us.toList->(∀u∈us.toList,u.oneCell'=true)->
  ∃DT,Instr.fill place us parts=some DT/\Bj γ GY DT.toList/\∀u∈DT.toList,u.oneCell'=true
 |[],as,parts,cs,us,GY,h,hl,hp,ha,hr,h1=>by
  have:parts=[]:=by simpa using hp
  subst this;simp only[List.zip_nil_left,AR] at h;cases h;exact⟨us,rfl,hr,h1⟩
 |(off,size)::places,[],parts,cs,us,GY,h,hl,hp,ha,hr,h1=>by simp at hl
 |(off,size)::places,a::as,[],cs,us,GY,h,hl,hp,ha,hr,h1=>by simp at hp
 |(off,size)::places,a::as,(i,v)::parts,cs,us,GY,h,hl,hp,ha,hr,h1=>by
  simp only[aOE,AR] at h;split at h
  .rename_i hc;obtain⟨o,n,m⟩:=hc;simp only[Bl,E2] at hp;obtain⟨_,_,e,Zg,b⟩:=ha.Mk;simp only[Bl,E2] at e;obtain⟨l,k⟩:=e;subst l;subst k;obtain⟨c,g⟩:=Ht Zg Ab;have K5:v.cells.size=size:=by have:=c.length;simp at this;omega
   have Z0:us.size=cs.length:=by have:=hr.length;simpa using this
   have hf:=On v.cells.toList off 0 us (by simp[K5];omega);obtain⟨DT,f,r2,d⟩:=Xn (place:=place) (us:=(us.toList.take off++v.cells.toList++us.toList.drop (off+size)).toArray) h (by simpa using hl) hp.2 b
    (by simpa using((hr.take off).append c).append (hr.drop (off+size)))
    (λu hu=>by
     simp only[Ax] at hu;rcases hu with(hu|hu)|hu
     .exact h1 u (Bp hu)
     .exact g u hu
     .exact h1 u (Bw hu))
   refine⟨DT,?_,r2,d⟩;rw[Instr.fill];simp only[hp.1];rw[Ad (by simp[K5];omega)];rw[<-f];congr 1
   have j:v.cells.toList.length=size:=by simpa using K5
   rw[<-aOF,aKx,hf];simp[j]
  .cases h
def Zt{v:Value}{a:Aa}(h:K4 v=some a):Bj γ a.cells v.cells.toList/\∀u∈v.cells.toList,u.oneCell'=true:=by
 have hr:=Fu (γ:=γ) h;unfold K4 at h;split at h
 .rename_i cs;cases hs:L7 cs.toList with
  |none=>rw[hs] at h;cases h
  |some as=>rw[hs] at h;cases h;exact Nk hs
 .refine Ht hr ?_;unfold Pn at h;split at h<;>first|(cases h;simp[Aa.cells];done)|skip
  .split at h;.cases h;simp[Aa.cells]
   .cases h
  .cases h
def OV{t:TypeId}{fs:Array Field}(hu:P.underlying t=some (.struct fs)){place:Nat->Option (Nat×Nat)}(lJ:∀(i:Nat) (f:Field) (n:Nat),fs[i]?=some f->B4 P f.type=some n->place i=some (f.offset,n)):
  ∀{parts:List (Nat×Operand)} {ps:List (Nat×Nat)},Kf P t parts=some ps->parts.map (λp=>place p.1)=ps.map some
 |[],ps,h=>by cases h;rfl
 |(i,x)::rest,ps,h=>by
  simp only[Kf,hu] at h;split at h
  .rename_i f hf;split at h;.rename_i n r h1 h2;cases h;simp[lJ i f n hf h1,OV hu lJ h2]
   .cases h
  .cases h
def PC{t e:TypeId}{len n:Nat}(hu:P.underlying t=some (.array len e))(hn:B4 P e=some n):
  ∀{parts:List (Nat×Operand)} {ps:List (Nat×Nat)},Kf P t parts=some ps->parts.map (λp=>some (p.1*n,n))=ps.map some
 |[],ps,h=>by cases h;rfl
 |(i,x)::rest,ps,h=>by
  simp only[Kf,hu] at h;split at h
  .split at h;.rename_i n' r h1 h2;cases h;rw[hn] at h1;cases h1;simp[PC hu hn h2]
   .cases h
  .cases h
def UG:∀(fs:List Field),(fs.all λf=>(B4 P f.type).isSome)=true->∃places,fs.mapM (λf=>(P.info? f.type).map λi=>(f.offset,i.size))=some places/\
  ∀(i:Nat) (f:Field) (n:Nat),fs[i]?=some f->B4 P f.type=some n->places[i]?=some (f.offset,n)
 |[],_=>⟨[],rfl,AH⟩
 |f::fs,h=>by
  simp only[cF,BC] at h;obtain⟨rest,h1,h2⟩:=UG fs h.2;cases hi:P.info? f.type with
  |none=>simp[B4,hi] at h
  |some b=>
   refine⟨(f.offset,b.size)::rest,by simp[hi,h1],λi g n hg hn=>?_⟩;cases i with
   |zero=>simp at hg;subst hg;simp[B4,hi] at hn;simp[hn]
   |succ i=>simpa using h2 i g n (by simpa using hg) hn
def fm{t:TypeId}{z:Aa}{parts:Array (Nat×Operand)}{ps:List (Nat×Nat)}{O:Operand->Value}(hz:Hb P t=some z)(hp:Kf P t parts.toList=some ps)(hb:V8 P t=true){as:List Aa}
  (ha:Bj γ as ((parts.toList.map (·.2)).map O)) {u:Aa} (h:AD (.Co z.cells ps) as=some u):∃v,(Instr.build t (parts.map λ(i,x)=>(i,O x))).run P w= .ok v w/\BQ γ u v:=by
 simp only[AD] at h;split at h
 .rename_i hl;cases hf:AR z.cells (ps.zip as) with
  |none=>rw[hf] at h;cases h
  |some cs=>
   rw[hf] at h;cases h;unfold Hb at hz;cases hi:P.info? t with
   |none=>rw[hi] at hz;cases hz
   |some d=>
    cases Zq:d.zero with
    |none=>rw[hi] at hz;simp[Zq] at hz
    |some k=>
     rw[hi] at hz;simp only[Cw,Zq] at hz;obtain⟨c,z2⟩:=Zt (γ:=γ) hz;have hparts:((parts.map λ(i,x)=>(i,O x)).toList.map (·.2))=(parts.toList.map (·.2)).map O:=AH;unfold V8 at hb;split at hb
     .rename_i fs hu;obtain⟨places,j,g⟩:=UG fs.toList hb;obtain⟨DT,f1,f2,f3⟩:=Xn (place:=λi=>places.toArray[i]?) (parts:=(parts.map λ(i,x)=>(i,O x)).toList) hf hl
       (by have:=OV hu (place:=λi=>places.toArray[i]?) (λi f n h1 h2=>by simpa using g i f n (by simpa using h1) h2) hp;rw[<-this];simp) (by rw[hparts];exact ha) c z2
      exact⟨.agg DT,run_build w t _ _ (by unfold Program.built;simp only[hi,hu,Zq,j];exact f1),DT,rfl,f2,f3⟩
     .rename_i len e hu;cases he:P.info? e with
      |none=>simp[B4,he] at hb
      |some b=>
       obtain⟨DT,f1,f2,f3⟩:=Xn (place:=λi=>some (i*b.size,b.size)) (parts:=(parts.map λ(i,x)=>(i,O x)).toList) hf hl
        (by have:=PC hu (n:=b.size) (by simp[B4,he]) hp;rw[<-this];simp) (by rw[hparts];exact ha) c z2
       exact⟨.agg DT,run_build w t _ _ (by unfold Program.built;simp only[hi,hu,Zq,he];exact f1),DT,rfl,f2,f3⟩
     .cases hb
 .cases h
end
end Go.Am
end
section
namespace Go.Am
open Go
def Se.still:Se->Bool
 | .append _ _| .Dm _| .Gf _| .s2b| .WV=>false
 |_=>true
def Hu{o:lR}{dst:Option Nat}{x:Option (List Aa)}{r:EM}(h:TP o dst x=some r):∃args,x=some args/\r= .mem o args dst:=by
 unfold TP at h;split at h;.cases h;exact⟨_,rfl,rfl⟩
 .cases h
def Ln{o:lR}{dst:Option Nat}{x:Option (List Aa)}{p:Se}{args:List Aa}{d:Option Nat}{Bu:Bool}{b:Option (Nat×Aa)}:¬TP o dst x=some (.op p args d Bu b):=λh=>by obtain⟨_,_,e⟩:=Hu h;cases e
def D2{p:Se}{dst:Option Nat}{x:Option (List Aa)}{r:EM}(h:TO p dst x=some r):∃args,x=some args/\r= .op p args dst false none:=by
 cases x with
 |none=>cases h
 |some args=>cases h;exact⟨args,rfl,rfl⟩
section
variable{C:FY}{γ0 γ:Gh}{w0 w:World}{Z:Nat->Nat}{U:BT}{h:Ah}{a:Act}{fid:FuncId}{ops:List Oper}
def Ij(P:Program)(γ:Gh)(a:Act)(o:Oper)(w:World)(p:Se)(args:List Aa):Prop:=
 ∀u,AD p args=some u->∃v,(execOp a.eval o).run P w= .ok (.value v) w/\BQ γ u v
def EX{P:Program}{s:Sem Value}{v:Value}(hs:s.run P w= .ok v w):(do pure (Next.value (<-s)):Sem Next).run P w= .ok (.value v) w:=by simp[hs]
def rQ{o:Oper}{c x y:Operand}(ho:o.op= .pick c x y)(hr:Dh C γ0 w0 γ Z U h a w){args:List Aa}(ha:Bz C U [c,x,y]=some args):Ij C.P γ a o w .pick args:=by
 intro u hu;simp only[AD] at hu;split at hu;.rename_i b p q;cases hu;obtain⟨_,_,_,e,h1,h2,d⟩:=(D1 hr ha).UF;simp only[Bl,Dn,E2] at e;obtain⟨i,g,f,_⟩:=e;rw[<-i] at h1;rw[<-g] at h2;rw[<-f] at d;refine⟨if b then a.eval x else a.eval y,?_,by cases b<;>simpa⟩;simp[execOp,ho,Su h1,asBool]
 .cases hu
def fo{o:Oper}{op:BinOp}{t:TypeId}{x y:Operand}{p:Se}(hp:Qj C.P op t=some p)(he:execOp a.eval o=(do pure (Next.value (<-(do eqGuard op t x y (a.eval x) (a.eval y);binOp op t (a.eval x) (a.eval y):Sem Value)))))
  (hr:Dh C γ0 w0 γ Z U h a w) {args:List Aa} (ha:Bz C U [x,y]=some args):Ij C.P γ a o w p args:=by
 intro u hu;obtain⟨v,c,b⟩:=mD (w:=w) hp x y (D1 hr ha) hu;exact⟨v,by rw[he];exact EX c,b⟩
def GO(hr:Dh C γ0 w0 γ Z U h a w){x:Operand}{args:List Aa}(ha:Bz C U [x]=some args):∃u,args=[u]/\BQ γ u (a.eval x):=by
 have h1:=D1 hr ha;cases args with
 |nil=>cases h1
 |cons u us=>
  obtain⟨_,_,e,h2,b⟩:=h1.Mk;cases e;cases us with
  |nil=>exact⟨u,rfl,h2⟩
  |cons _ _=>obtain⟨_,_,e,_⟩:=b.Mk;cases e
def Fb(hr:Dh C γ0 w0 γ Z U h a w){x y:Operand}{args:List Aa}(ha:Bz C U [x,y]=some args):∃u v,args=[u,v]/\BQ γ u (a.eval x)/\BQ γ v (a.eval y):=by
 have h1:=D1 hr ha;cases args with
 |nil=>cases h1
 |cons u us=>
  obtain⟨_,_,e,h2,b⟩:=h1.Mk;cases e;cases us with
  |nil=>cases b
  |cons v vs=>
   obtain⟨_,_,e,d,c⟩:=b.Mk;cases e;cases vs with
   |nil=>exact⟨u,v,rfl,h2,d⟩
   |cons _ _=>obtain⟨_,_,e,_⟩:=c.Mk;cases e
def qa{o:Oper}{op:UnOp}{x:Operand}(he:execOp a.eval o=(do pure (Next.value (<-Op.unary op (a.eval x)))))
  (hr:Dh C γ0 w0 γ Z U h a w) {args:List Aa} (ha:Bz C U [x]=some args):Ij C.P γ a o w (.un op) args:=by
 intro u hu;obtain⟨v,rfl,h1⟩:=GO hr ha;simp only[AD] at hu;obtain⟨r,c,b⟩:=aBM (P:=C.P) (w:=w) h1 hu;exact⟨r,by rw[he];exact EX c,b⟩
def rR{o:Oper}{src dst:TypeId}{k l:IntKind}{x:Operand}(hs:C.P.underlying src=some (.int l))(hd:C.P.underlying dst=some (.int k))(he:execOp a.eval o=(do pure (Next.value (<-convert src dst (a.eval x)))))
  (hr:Dh C γ0 w0 γ Z U h a w) {args:List Aa} (ha:Bz C U [x]=some args):Ij C.P γ a o w (.conv k) args:=by
 intro u hu;obtain⟨v,rfl,h1⟩:=GO hr ha;simp only[AD] at hu;split at hu;.rename_i e;cases e;cases hu;rw[Ez h1] at he;exact⟨_,by rw[he];exact EX (cM hs hd),rfl⟩
 .cases hu
def fq{o:Oper}{src dst:TypeId}{l:IntKind}{x:Operand}(hs:C.P.underlying src=some (.int l))(hd:C.P.underlying dst=some .string)(he:execOp a.eval o=(do pure (Next.value (<-convert src dst (a.eval x)))))
  (hr:Dh C γ0 w0 γ Z U h a w) {args:List Aa} (ha:Bz C U [x]=some args):Ij C.P γ a o w .i2s args:=by
 intro u hu;obtain⟨v,rfl,h1⟩:=GO hr ha;simp only[AD] at hu;split at hu;.rename_i e;cases e;cases hu;rw[Ez h1] at he;exact⟨_,by rw[he];exact EX (cN hs hd),rfl⟩
 .cases hu
def mF{o:Oper}{t:TypeId}{x:Operand}{f off:Nat}{sh:Option Nat}(hf:IB C.P t f=some (off,sh))(he:execOp a.eval o=(do pure (Next.value (<-Instr.field t (a.eval x) f))))
  (hr:Dh C γ0 w0 γ Z U h a w) {args:List Aa} (ha:Bz C U [x]=some args):Ij C.P γ a o w (.part off sh) args:=by
 intro u hu;obtain⟨v,rfl,h1⟩:=GO hr ha;simp only[AD] at hu;split at hu;.rename_i e;cases e;obtain⟨r,c,b⟩:=fj (w:=w) hf h1 hu;exact⟨r,by rw[he];exact EX c,b⟩
 .cases hu
def Vz{o:Oper}{t:TypeId}{x:Operand}{f off:Nat}{sh:Option Nat}(hf:IB C.P t f=some (off,sh))(he:execOp a.eval o=(do pure (Next.value (<-Instr.fieldAt t (a.eval x) f))))
  (hr:Dh C γ0 w0 γ Z U h a w) {args:List Aa} (ha:Bz C U [x]=some args):Ij C.P γ a o w (.Lh off) args:=by
 intro u hu;obtain⟨v,rfl,h1⟩:=GO hr ha;simp only[AD] at hu;obtain⟨r,c,b⟩:=mE (w:=w) hf h1 hu;exact⟨r,by rw[he];exact EX c,b⟩
def fu{o:Oper}{x:Operand}{i:Nat}(he:execOp a.eval o=(do pure (Next.value (<-Instr.extract (a.eval x) i))))
  (hr:Dh C γ0 w0 γ Z U h a w) {args:List Aa} (ha:Bz C U [x]=some args):Ij C.P γ a o w (.ext i) args:=by
 intro u hu;obtain⟨v,rfl,h1⟩:=GO hr ha;simp only[AD] at hu;split at hu;.rename_i e;cases e;obtain⟨r,c,b⟩:=Q_ (P:=C.P) (w:=w) h1 hu;exact⟨r,by rw[he];exact EX c,b⟩
 .cases hu
def VA{o:Oper}{t:TypeId}{x y:Operand}(ht:C.P.underlying t=some .string)(he:execOp a.eval o=(do pure (Next.value (<-Instr.index t (a.eval x) (a.eval y)))))
  (hr:Dh C γ0 w0 γ Z U h a w) {args:List Aa} (ha:Bz C U [x,y]=some args):Ij C.P γ a o w .Zo args:=by
 intro u hu;obtain⟨p,q,rfl,h1,h2⟩:=Fb hr ha;simp only[AD] at hu;split at hu
 .rename_i e;cases e;split at hu
  .rename_i s k i h0;cases hb:s[i.toNat]? with
   |none=>rw[hb] at hu;cases hu
   |some b=>rw[hb] at hu;cases hu;rw[Ol h1,Ez h2] at he;exact⟨_,by rw[he];exact EX (Zs ht h0 hb),rfl⟩
  .cases hu
 .cases hu
def VB{o:Oper}{t e:TypeId}{len n:Nat}{sh:Option Nat}{x y:Operand}(ht:C.P.underlying t=some (.array len e))(hn:B4 C.P e=some n)(qQ:Fq C.P e=some sh)(he:execOp a.eval o=(do pure (Next.value (<-Instr.index t (a.eval x) (a.eval y)))))
  (hr:Dh C γ0 w0 γ Z U h a w) {args:List Aa} (ha:Bz C U [x,y]=some args):Ij C.P γ a o w (.aBB len n sh) args:=by
 intro u hu;obtain⟨p,q,rfl,h1,h2⟩:=Fb hr ha;simp only[AD] at hu;split at hu
 .rename_i e;cases e;rename_i cs k i;cases hb:Me i len with
  |none=>rw[hb] at hu;cases hu
  |some j=>rw[hb] at hu;simp only[Cw] at hu;rw[Ez h2] at he;obtain⟨r,c,b⟩:=Zr (w:=w) (k:=k) ht hn qQ h1 hb hu;exact⟨r,by rw[he];exact EX c,b⟩
 .cases hu
def Xo{o:Oper}{t e:TypeId}{n:Nat}{x y:Operand}(ht:C.P.underlying t=some (.slice e))(hn:B4 C.P e=some n)(he:execOp a.eval o=(do pure (Next.value (<-Instr.indexAt t (a.eval x) (a.eval y)))))
  (hr:Dh C γ0 w0 γ Z U h a w) {args:List Aa} (ha:Bz C U [x,y]=some args):Ij C.P γ a o w (.Fl n) args:=by
 intro u hu;obtain⟨p,q,rfl,h1,h2⟩:=Fb hr ha;simp only[AD] at hu;split at hu;.rename_i e;cases e;rename_i k i;rw[Ez h2] at he;obtain⟨r,c,b⟩:=rN (w:=w) (k:=k) ht hn h1 hu;exact⟨r,by rw[he];exact EX c,b⟩
 .cases hu
def Zu{o:Oper}{t e:TypeId}{len n:Nat}{x y:Operand}(ht:C.P.underlying t=some (.array len e))(hn:B4 C.P e=some n)(he:execOp a.eval o=(do pure (Next.value (<-Instr.indexAt t (a.eval x) (a.eval y)))))
  (hr:Dh C γ0 w0 γ Z U h a w) {args:List Aa} (ha:Bz C U [x,y]=some args):Ij C.P γ a o w (.UB len n) args:=by
 intro u hu;obtain⟨p,q,rfl,h1,h2⟩:=Fb hr ha;simp only[AD] at hu;split at hu
 .rename_i e;cases e;rename_i k i;cases hb:Me i len with
  |none=>rw[hb] at hu;cases hu
  |some j=>rw[hb] at hu;simp only[Cw] at hu;rw[Ez h2] at he;obtain⟨r,c,b⟩:=fk (w:=w) (k:=k) ht hn h1 hb hu;exact⟨r,by rw[he];exact EX c,b⟩
 .cases hu
def UH{o:Oper}{t:TypeId}{x:Operand}{lo hi:Option Operand}{isStr:Bool}{size:Nat}(ht:if isStr=true then C.P.underlying t=some .string else∃e,C.P.underlying t=some (.slice e)/\B4 C.P e=some size)
  (he:execOp a.eval o=(do pure (Next.value (<-Instr.sliceAt t (a.eval x) (lo.map a.eval) (hi.map a.eval) none))))
  (hr:Dh C γ0 w0 γ Z U h a w) {args:List Aa} (ha:Bz C U (x::(lo.toList++hi.toList))=some args):Ij C.P γ a o w (.K0 size isStr lo.isSome hi.isSome) args:=by
 intro u hu;have h1:=D1 hr ha;cases args with
 |nil=>cases h1
 |cons s as=>obtain⟨_,_,e,h2,d⟩:=h1.Mk;cases e;simp only[AD] at hu;obtain⟨r,c,b⟩:=R_ (P:=C.P) (w:=w) (lo:=lo.map a.eval) (hi:=hi.map a.eval) ht h2 (by cases lo<;>cases hi<;>simpa using d) (by simpa using hu);exact⟨r,by rw[he];exact EX c,b⟩
def mG{o:Oper}{t:TypeId}{parts:Array (Nat×Operand)}{z:Aa}{ps:List (Nat×Nat)}(hz:Hb C.P t=some z)(hp:Kf C.P t parts.toList=some ps)(hb:V8 C.P t=true)
  (he:execOp a.eval o=(do pure (Next.value (<-Instr.build t (parts.map λ(i,x)=>(i,a.eval x))))))
  (hr:Dh C γ0 w0 γ Z U h a w) {args:List Aa} (ha:Bz C U (parts.toList.map (·.2))=some args):Ij C.P γ a o w (.Co z.cells ps) args:=by
 intro u hu;obtain⟨r,c,b⟩:=fm (w:=w) hz hp hb (D1 hr ha) hu;exact⟨r,by rw[he];exact EX c,b⟩
def cP{o:Oper}{x:Operand}(ho:o.op= .nilCheck x)(hr:Dh C γ0 w0 γ Z U h a w){args:List Aa}(ha:Bz C U [x]=some args):Ij C.P γ a o w .JH args:=by
 intro u hu;obtain⟨v,rfl,h1⟩:=GO hr ha;simp only[AD,lT] at hu;split at hu;.rename_i p;cases hu;obtain⟨i,k⟩:=p;obtain⟨b,hb,hv⟩:=h1;exact⟨_,by simp only[execOp,ho,hv];rfl,b,hb,rfl⟩
 .cases hu;obtain⟨b,k,hv,hm⟩:=h1;exact⟨_,by simp only[execOp,ho,hv];rfl,b,k,rfl,hm⟩
 .cases hu;obtain⟨fs,cs,hv,p,q⟩:=h1;exact⟨_,by simp only[execOp,ho,hv];rfl,fs,cs,rfl,p,q⟩
 .cases hu
def Nl:∀{xs:List Operand} {us:List Aa},Bz C U xs=some us->us.length=xs.length
 |[],us,h=>by cases h;rfl
 |x::xs,us,h=>by
  unfold Bz at h;split at h;.rename_i u DT h1 h2;cases h;simp[Nl h2]
  .cases h
def Oo{P:Program}{o:Oper}{c:Call}{b:Builtin}{s:Sem Value}(ho:o.op= .call c)(hc:c.callee= .builtin b)(hs:builtin b c.argTypes o.type (c.args.map λ| .const _=>true|_=>false) (c.args.map a.eval)=(do pure (Next.value (<-s)))){v:Value}
  (hv:s.run P w= .ok v w):(execOp a.eval o).run P w= .ok (.value v) w:=by
 have:execOp a.eval o=(do pure (Next.value (<-s))):=by rw[<-hs];simp only[execOp,ho,resolve,hc];rfl
 rw[this];exact EX hv
def Z7{o:Oper}{c:Call}{t:TypeId}{isStr:Bool}(ho:o.op= .call c)(hc:c.callee= .builtin .len)(h0:c.argTypes[0]?=some t)(ht:if isStr=true then C.P.underlying t=some .string else∃e,C.P.underlying t=some (.slice e))
  (hr:Dh C γ0 w0 γ Z U h a w) {args:List Aa} (ha:Bz C U c.args.toList=some args):Ij C.P γ a o w (.len isStr) args:=by
 intro u hu;simp only[AD] at hu;split at hu
 .rename_i s;have hl:=Nl ha;obtain⟨x,hx⟩:∃x,c.args.toList=[x]:=aEE.1 hl.symm;rw[hx] at ha;obtain⟨_,e,h1⟩:=GO hr ha;cases e;obtain⟨r,d,b⟩:=P_ (P:=C.P) (w:=w) (ty:=o.type) ht h0 h1 hu;have e:c.args.map a.eval=#[a.eval x]:=by apply HE;simp[hx]
  exact⟨r,Oo ho hc (s:=Builtin.len_ c.argTypes o.type #[a.eval x]) (by rw[e];rfl) d,b⟩
 .cases hu
def Sv{o:Oper}{c:Call}{isMax:Bool}(ho:o.op= .call c)(hc:c.callee= .builtin (if isMax then .max else .min))(hr:Dh C γ0 w0 γ Z U h a w){args:List Aa}(ha:Bz C U c.args.toList=some args):Ij C.P γ a o w (.LB isMax) args:=by
 intro u hu;simp only[AD] at hu;split at hu
 .rename_i k p l q;split at hu
  .rename_i hk;subst hk;cases hu;have hl:=Nl ha;obtain⟨x,y,hx⟩:∃x y,c.args.toList=[x,y]:=by
    cases hq:c.args.toList with
    |nil=>rw[hq] at hl;simp at hl
    |cons x xs=>cases xs with
     |nil=>rw[hq] at hl;simp at hl
     |cons y ys=>cases ys with
      |nil=>exact⟨x,y,rfl⟩
      |cons _ _=>rw[hq] at hl;simp at hl
   rw[hx] at ha;obtain⟨_,_,e,h1,h2⟩:=Fb hr ha;cases e;have e:c.args.map a.eval=#[.int k p,.int k q]:=by apply HE;simp[hx,Ez h1,Ez h2]
   cases isMax with
   |true=>exact⟨_,Oo ho hc (s:=Builtin.max_ c.argTypes o.type #[.int k p,.int k q]) (by rw[e];rfl) (by simp[Builtin.max_,Builtin.max2]),rfl⟩
   |false=>exact⟨_,Oo ho hc (s:=Builtin.min_ c.argTypes o.type #[.int k p,.int k q]) (by rw[e];rfl) (by simp[Builtin.min_,Builtin.min2]),rfl⟩
  .cases hu
 .cases hu
end
end Go.Am
end
section
namespace Go.Am
open Go
section
variable{C:FY}{γ0 γ:Gh}{w0 w:World}{Z:Nat->Nat}{U:BT}{h:Ah}{a:Act}{fid:FuncId}{ops:List Oper}
def MZ{x:Operand}{d:Nat}{take:Bool}{r:EM}(h:KL C U x d take=some r):∃ws,r= .pure ws:=by
 unfold KL at h;split at h;.cases h;exact⟨_,rfl⟩
 .cases h;exact⟨_,rfl⟩
 .split at h;.cases h;exact⟨_,rfl⟩
  .cases hc:IC _ with
   |none=>rw[hc] at h;cases h
   |some s=>rw[hc] at h;cases h;exact⟨_,rfl⟩
 .cases hc:IC _ with
  |none=>rw[hc] at h;cases h
  |some s=>rw[hc] at h;cases h;exact⟨_,rfl⟩
 .cases h
def Z8{t:TypeId}{v:Aa}{d:Nat}{p:Se}{args:List Aa}{dst:Option Nat}{Bu:Bool}{b:Option (Nat×Aa)}:UC C fid t v d≠some (.op p args dst Bu b):=by
 unfold UC;intro h;split at h;.cases h
 .split at h;.cases h
  .split at h<;>cases h
def rS{t:TypeId}{x:Operand}{d:Nat}{take:Bool}{p:Se}{args:List Aa}{dst:Option Nat}{Bu:Bool}{b:Option (Nat×Aa)}:LF C U t x d take≠some (.op p args dst Bu b):=by
 unfold LF;intro h;split at h;.cases h
 .split at h;.simp only at h;split at h<;>cases h
  .cases h
 .split at h<;>cases h
 .cases h
def mH{t:TypeId}{x y:Operand}{p:Se}{args:List Aa}{dst:Option Nat}{Bu:Bool}{b:Option (Nat×Aa)}:JD C U t x y≠some (.op p args dst Bu b):=by
 unfold JD;intro h;split at h;.cases h
 .split at h<;>cases h
 .cases h
def fw{o:Oper}{p:Se}{args:List Aa}{dst:Option Nat}{Bu:Bool}{j:Option (Nat×Aa)}(hc:Gq C fid ops U o=some (.op p args dst Bu j))(HN:p.still=true)(hr:Dh C γ0 w0 γ Z U h a w):
  Ij C.P γ a o w p args/\dst=o.dst/\Bu=false/\j=none:=by
 unfold Gq at hc
 split at hc
 .split at hc
  .obtain⟨ws,e⟩:=MZ hc;cases e
  .cases hc
 .split at hc
  .obtain⟨ws,e⟩:=MZ hc;cases e
  .cases hc
 .rename_i c x y ho
  split at hc
  .obtain⟨ws,e⟩:=MZ hc;cases e
  .obtain⟨ws,e⟩:=MZ hc;cases e
  .obtain⟨as,g,b⟩:=D2 hc
   cases b
   exact⟨rQ ho hr g,rfl,rfl,rfl⟩
 .split at hc
  .split at hc
   .split at hc<;>cases hc
   .exact absurd hc Z8
  .cases hc
 .split at hc
  .exact absurd hc Z8
  .cases hc
 .rename_i t parts ho
  split at hc
  .rename_i z ps hz hp
   split at hc
   .rename_i hb
    obtain⟨as,g,b⟩:=D2 hc
    cases b
    exact⟨mG hz hp hb (by simp[execOp,ho]) hr g,rfl,rfl,rfl⟩
   .cases hc
  .cases hc
 .split at hc
  .split at hc
   .split at hc
    .split at hc
     .cases hc;cases HN
     .cases hq:Bz C U _ with
      |none=>rw[hq] at hc;cases hc
      |some q=>rw[hq] at hc;cases hc;cases HN
    .cases hc
   .cases hc
  .cases hc
 .split at hc
  .exact absurd hc rS
  .cases hc
 .split at hc
  .exact absurd hc mH
  .cases hc
 .rename_i x ho
  split at hc
  .cases hc
  .cases hc
  .obtain⟨as,g,b⟩:=D2 hc
   cases b
   exact⟨cP ho hr g,rfl,rfl,rfl⟩
 .rename_i op t x y k ho
  split at hc
  .rename_i q hq
   obtain⟨as,g,b⟩:=D2 hc
   cases b
   exact⟨fo hq (by simp[execOp,ho]) hr g,rfl,rfl,rfl⟩
  .cases hc
 .rename_i op t x ho
  obtain⟨as,g,b⟩:=D2 hc
  cases b
  exact⟨qa (by simp[execOp,ho]) hr g,rfl,rfl,rfl⟩
 .rename_i src aKF x ho
  split at hc
  .cases hq:E4 C U x with
   |none=>rw[hq] at hc;cases hc
   |some q=>rw[hq] at hc;cases hc
  .split at hc
   .cases hq:E4 C U x with
    |none=>rw[hq] at hc;cases hc
    |some q=>rw[hq] at hc;cases hc
   .obtain⟨as,g,b⟩:=D2 hc
    cases b;cases HN
  .rename_i q Nn TI hq
   obtain⟨as,g,b⟩:=D2 hc
   cases b
   refine⟨?_,rfl,rfl,rfl⟩
   unfold Xc at hq
   split at hq
   .rename_i hs hd
    cases hq
    exact rR hs hd (by simp[execOp,ho]) hr g
   .rename_i hs hd
    cases hq
    exact fq hs hd (by simp[execOp,ho]) hr g
   .cases hq
   .split at hq
    .cases hq;cases HN
    .cases hq
   .split at hq
    .cases hq;cases HN
    .cases hq
   .cases hq
  .cases hc
 .split at hc
  .cases hc
  .cases hc
 .cases hc
 .split at hc
  .split at hc<;>cases hc
  .cases hc
 .split at hc
  .split at hc<;>cases hc
  .cases hc
 .split at hc
  .split at hc<;>cases hc
  .cases hc
 .split at hc
  .split at hc<;>cases hc
  .cases hc
 .split at hc
  .split at hc
   .exact absurd hc Ln
   .cases hc
  .cases hc
 .split at hc
  .cases hc
  .exact absurd hc Ln
  .cases hc
 .split at hc
  .split at hc<;>first|exact absurd hc Ln|cases hc
  .cases hc
 .split at hc
  .exact absurd hc Ln
  .cases hc
 .rename_i t x lo hi ho
  split at hc
  .rename_i ht
   obtain⟨as,g,b⟩:=D2 hc
   cases b
   exact⟨UH (isStr:=true) ht (by simp[execOp,ho]) hr g,rfl,rfl,rfl⟩
  .rename_i e ht
   split at hc
   .rename_i n hn
    split at hc
    .exact absurd hc Ln
    .obtain⟨as,g,b⟩:=D2 hc
     cases b
     exact⟨UH (isStr:=false) ⟨e,ht,hn⟩ (by simp[execOp,ho]) hr g,rfl,rfl,rfl⟩
   .cases hc
  .cases hc
 .rename_i t x f ho
  split at hc
  .rename_i off sh d hf hd
   split at hc
   .cases hc
   .cases hc
   .obtain⟨as,g,b⟩:=D2 hc
    cases b
    exact⟨Vz hf (by simp[execOp,ho]) hr g,hd.symm,rfl,rfl⟩
  .cases hc
 .rename_i t x f ho
  split at hc
  .rename_i off sh hf
   obtain⟨as,g,b⟩:=D2 hc
   cases b
   exact⟨mF hf (by simp[execOp,ho]) hr g,rfl,rfl,rfl⟩
  .cases hc
 .rename_i t x i ho
  split at hc
  .rename_i e ht
   split at hc
   .rename_i n hn
    obtain⟨as,g,b⟩:=D2 hc
    cases b
    exact⟨Xo ht hn (by simp[execOp,ho]) hr g,rfl,rfl,rfl⟩
   .cases hc
  .rename_i len e ht
   split at hc
   .rename_i n hn
    split at hc
    .cases hc
    .obtain⟨as,g,b⟩:=D2 hc
     cases b
     exact⟨Zu ht hn (by simp[execOp,ho]) hr g,rfl,rfl,rfl⟩
   .cases hc
  .cases hc
 .rename_i t x i ho
  split at hc
  .rename_i ht
   obtain⟨as,g,b⟩:=D2 hc
   cases b
   exact⟨VA ht (by simp[execOp,ho]) hr g,rfl,rfl,rfl⟩
  .rename_i len e ht
   split at hc
   .rename_i n sh hn qQ
    obtain⟨as,g,b⟩:=D2 hc
    cases b
    exact⟨VB ht hn qQ (by simp[execOp,ho]) hr g,rfl,rfl,rfl⟩
   .cases hc
  .cases hc
 .rename_i x i ho
  obtain⟨as,g,b⟩:=D2 hc
  cases b
  exact⟨fu (by simp[execOp,ho]) hr g,rfl,rfl,rfl⟩
 .rename_i c ho
  unfold Rr at hc
  split at hc
  .rename_i hcl
   split at hc
   .rename_i t h0
    split at hc
    .rename_i ht
     obtain⟨as,g,b⟩:=D2 hc
     cases b
     exact⟨Z7 (isStr:=true) ho hcl h0 ht hr g,rfl,rfl,rfl⟩
    .rename_i e ht
     obtain⟨as,g,b⟩:=D2 hc
     cases b
     exact⟨Z7 (isStr:=false) ho hcl h0 ⟨e,ht⟩ hr g,rfl,rfl,rfl⟩
    .cases hc
   .cases hc
  .split at hc
   .split at hc
    all_goals first
     |(cases hc;done)
     | (split at hc
        . split at hc
          . split at hc
            . split at hc
              . split at hc
                . cases hc
                . split at hc
                  . cases hc
                  . cases hc; cases HN
              . split at hc <;> cases hc
            . cases hc
          . cases hc
        . cases hc)
   .cases hc
  .split at hc
   .split at hc
    all_goals first
     |(cases hc;done)
     | (split at hc
        . exact absurd hc Ln
        . cases hc)
   .cases hc
  .split at hc
   .split at hc
    .split at hc
     .exact absurd hc Ln
     .cases hc
    .cases hc
   .cases hc
  .rename_i hcl
   split at hc
   .obtain⟨as,g,b⟩:=D2 hc
    cases b
    exact⟨Sv (isMax:=true) ho hcl hr g,rfl,rfl,rfl⟩
   .cases hc
  .rename_i hcl
   split at hc
   .obtain⟨as,g,b⟩:=D2 hc
    cases b
    exact⟨Sv (isMax:=false) ho hcl hr g,rfl,rfl,rfl⟩
   .cases hc
  .split at hc
   .split at hc
    .split at hc
     .exact absurd hc Ln
     .cases hc
    .cases hc
   split at hc
   .cases hq:Bz C U c.args.toList with
    |none=>rw[hq] at hc;cases hc
    |some q=>
     rw[hq] at hc
     simp only[B0,BB] at hc
     split at hc<;>cases hc
   .cases hc
  .split at hc<;>cases hc
  .cases hc
 .cases hc
end
end Go.Am
end
