/- Lemmas -/
import Derived.Test.YtljddgipdchkiaaGreatDoorB2
import Derived.Laws.Slices
set_option linter.all false
section
namespace Go.Am
open Go
section
variable{P:Program}{γ:Gh}{w:World}
def R4{a:Bool}{v:Value}(h:BO γ (.bool a) v):v= .bool a:=h
def Ew{k:IntKind}{a:Int}{v:Value}(h:BO γ (.int k a) v):v= .int k a:=h
def N6{a:Ao}{v:Value}(h:BO γ (.str a) v):v= .string ⟨⟨a⟩⟩:=h
def Bg.xq{us:List Value}(h:Bg γ [] us):us=[]:=h
def Bg.Me{a:Aa}{l:List Aa}{us:List Value}(h:Bg γ (a::l) us):∃u DK,us=u::DK/\BO γ a u/\Bg γ l DK:=h
def Bg.one{a:Aa}{us:List Value}(h:Bg γ [a] us):∃u,us=[u]/\BO γ a u:=by obtain⟨u,DK,rfl,h1,h2⟩:=h;rw[h2.xq];exact⟨u,rfl,h1⟩
def Bg.YX{a b:Aa}{us:List Value}(h:Bg γ [a,b] us):∃u v,us=[u,v]/\BO γ a u/\BO γ b v:=by obtain⟨u,DK,rfl,h1,h2⟩:=h;obtain⟨v,rfl,c⟩:=h2.one;exact⟨u,v,rfl,h1,c⟩
def Bg.T8{a b c:Aa}{us:List Value}(h:Bg γ [a,b,c] us):∃u v x,us=[u,v,x]/\BO γ a u/\BO γ b v/\BO γ c x:=by obtain⟨u,DK,rfl,h1,h2⟩:=h;obtain⟨v,x,rfl,e,d⟩:=h2.YX;exact⟨u,v,x,rfl,h1,e,d⟩
def Value.Kd:Value->Bool
 | .bool _| .pointer _| .slice _ _ _| .func _ _ _| .nilFunc| .map _=>true
 |_=>false
def To{op:BinOp}{neg:Bool}(NY:(op= .eql/\neg=false)\/(op= .neq/\neg=true))(t:TypeId)(c b:Operand){x y:Value}(hx:Value.Kd x=true)(hy:Value.Kd y=true){e:Bool}
  (he:(Op.equal t x y).run P w= .ok e w):(do eqGuard op t c b x y;binOp op t x y:Sem Value).run P w= .ok (.bool (e != neg)) w:=by
 have hg:eqGuard op t c b x y=pure ():=by rcases NY with⟨rfl,_⟩|⟨rfl,_⟩<;>cases x<;>simp[Value.Kd] at hx<;>rfl
 rw[hg];rcases NY with⟨rfl,rfl⟩|⟨rfl,rfl⟩
 .have hb:binOp .eql t x y=(do pure (.bool (<-Op.equal t x y))):=by cases x<;>simp[Value.Kd] at hx<;>cases y<;>simp[Value.Kd] at hy<;>rfl
  simp[hb,he]
 .have hb:binOp .neq t x y=(do pure (.bool (!(<-Op.equal t x y)))):=by cases x<;>simp[Value.Kd] at hx<;>cases y<;>simp[Value.Kd] at hy<;>rfl
  simp[hb,he]
def kQ{op:BinOp}{neg:Bool}(NY:(op= .eql/\neg=false)\/(op= .neq/\neg=true))(t:TypeId)(d c:Operand)(ht:P.underlying t=some .bool)(a b:Bool):
  (do eqGuard op t d c (.bool a) (.bool b);binOp op t (.bool a) (.bool b):Sem Value).run P w= .ok (.bool ((a==b) != neg)) w:=
 To NY t d c rfl rfl (run_equalIn_bool' w 9999 t a b ht)
def UR{d:Nat}{t e:TypeId}(ht:P.underlying t=some (.pointer e))(hz:∃n,B3 P e=some (n+1)){a b:Aa}{x y:Value}(hx:BO γ a x)(hy:BO γ b y){r:Bool}(h:uT a b=some r):
  (Op.equalIn (d+1) t x y).run P w= .ok r w/\Value.Kd x=true/\Value.Kd y=true:=by
 obtain⟨n,hn⟩:=hz;unfold uT at h;split at h
 .rename_i q;cases h;rw[show x= .pointer none from hx];have:∃p,y= .pointer p/\p.isNone=q.isNone:=by
   cases q with
   |none=>exact⟨none,hy,rfl⟩
   |some p=>obtain⟨i,o⟩:=p;obtain⟨b,_,rfl⟩:=hy;exact⟨_,rfl,rfl⟩
  obtain⟨p,rfl,hp⟩:=this;exact⟨by simp[Op.equalIn,run_underlying ht,hp],rfl,rfl⟩
 .rename_i p;cases h;obtain⟨i,o⟩:=p;obtain⟨b,_,rfl⟩:=hx;rw[show y= .pointer none from hy];exact⟨by simp[Op.equalIn,run_underlying ht],rfl,rfl⟩
 .rename_i p q;split at h;.rename_i he;cases h;subst he;obtain⟨i,o⟩:=p;obtain⟨b,hb,rfl⟩:=hx;obtain⟨b',Q9,rfl⟩:=hy;rw[hb] at Q9;cases Q9;exact⟨by simp[Op.equalIn,run_underlying ht,DN hn,sameAddr],rfl,rfl⟩
  .cases h
 .cases h;rw[show x= .pointer none from hx];obtain⟨b,o,rfl,_⟩:=hy;exact⟨by simp[Op.equalIn,run_underlying ht],rfl,rfl⟩
 .cases h;rw[show y= .pointer none from hy];obtain⟨b,o,rfl,_⟩:=hx;exact⟨by simp[Op.equalIn,run_underlying ht],rfl,rfl⟩
 .cases h
def EK{d:Nat}{t e:TypeId}(ht:P.underlying t=some (.slice e)){p q:Option Addr}{n c m k:Nat}(h:p=none\/q=none):
  (Op.equalIn (d+1) t (.slice p n c) (.slice q m k)).run P w= .ok (p.isNone&&q.isNone) w:=by
 cases p<;>cases q<;>simp at h<;>simp[Op.equalIn,run_underlying ht]
def Mf{d:Nat}{t:TypeId}{a b:Array TypeId}{c:Bool}(ht:P.underlying t=some (.func a b c)){f:Fn}{x y:Array Value}:
  (Op.equalIn (d+1) t .nilFunc .nilFunc).run P w= .ok true w/\(Op.equalIn (d+1) t .nilFunc (.func f x y)).run P w= .ok false w/\(Op.equalIn (d+1) t (.func f x y) .nilFunc).run P w= .ok false w:=by
 refine⟨?_,?_,?_⟩<;>simp[Op.equalIn,run_underlying ht]
def LC{d:Nat}{t k e:TypeId}(ht:P.underlying t=some (.map k e)){p q:Option Nat}(h:p=none\/q=none):
  (Op.equalIn (d+1) t (.map p) (.map q)).run P w= .ok (p.isNone&&q.isNone) w:=by
 cases p<;>cases q<;>simp at h<;>simp[Op.equalIn,run_underlying ht]
def US{d:Nat}{t:TypeId}{k:NK}(ht:match k with| .sl=>∃e,P.underlying t=some (.slice e)| .fn=>∃a b c,P.underlying t=some (.func a b c)| .mp=>∃a b,P.underlying t=some (.map a b))
  {a b:Aa} {x y:Value} (hx:BO γ a x) (hy:BO γ b y) {r:Bool} (h:uU k a b=some r):
  (Op.equalIn (d+1) t x y).run P w= .ok r w/\Value.Kd x=true/\Value.Kd y=true:=by
 unfold uU at h;split at h;case h_1=>obtain⟨e,ht⟩:=ht;cases h;rw[show x= .slice none 0 0 from hx,show y= .slice none 0 0 from hy];exact⟨EK ht (.inl rfl),rfl,rfl⟩
 case h_2=>obtain⟨e,ht⟩:=ht;cases h;rw[show x= .slice none 0 0 from hx];obtain⟨_,_,rfl,_⟩:=hy;exact⟨EK ht (.inl rfl),rfl,rfl⟩
 case h_3=>obtain⟨e,ht⟩:=ht;cases h;rw[show y= .slice none 0 0 from hy];obtain⟨_,_,rfl,_⟩:=hx;exact⟨EK ht (.inr rfl),rfl,rfl⟩
 case h_4=>obtain⟨e,ht⟩:=ht;cases h;rw[show x= .slice none 0 0 from hx];obtain⟨_,rfl⟩:=hy;exact⟨EK ht (.inl rfl),rfl,rfl⟩
 case h_5=>obtain⟨e,ht⟩:=ht;cases h;rw[show y= .slice none 0 0 from hy];obtain⟨_,rfl⟩:=hx;exact⟨EK ht (.inr rfl),rfl,rfl⟩
 case h_6=>obtain⟨e,ht⟩:=ht;cases h;rw[show x= .slice none 0 0 from hx];obtain⟨_,_,_,rfl,_⟩:=hy;exact⟨EK ht (.inl rfl),rfl,rfl⟩
 case h_7=>obtain⟨e,ht⟩:=ht;cases h;rw[show y= .slice none 0 0 from hy];obtain⟨_,_,_,rfl,_⟩:=hx;exact⟨EK ht (.inr rfl),rfl,rfl⟩
 case h_8=>obtain⟨_,_,_,ht⟩:=ht;cases h;rw[show x= .nilFunc from hx,show y= .nilFunc from hy];exact⟨(Mf ht (f:= .func 0) (x:=#[]) (y:=#[])).1,rfl,rfl⟩
 case h_9=>obtain⟨_,_,_,ht⟩:=ht;cases h;rw[show x= .nilFunc from hx];obtain⟨_,_,rfl,_⟩:=hy;exact⟨(Mf ht).2.1,rfl,rfl⟩
 case h_10=>obtain⟨_,_,_,ht⟩:=ht;cases h;rw[show y= .nilFunc from hy];obtain⟨_,_,rfl,_⟩:=hx;exact⟨(Mf ht).2.2,rfl,rfl⟩
 case h_11=>
  rename_i q;obtain⟨_,_,ht⟩:=ht;cases h;rw[show x= .map none from hx];cases q with
  |none=>rw[show y= .map none from hy];exact⟨LC ht (.inl rfl),rfl,rfl⟩
  |some id=>obtain⟨b,_,rfl⟩:=hy;exact⟨LC ht (.inl rfl),rfl,rfl⟩
 case h_12=>obtain⟨_,_,ht⟩:=ht;cases h;rw[show y= .map none from hy];obtain⟨b,_,rfl⟩:=hx;exact⟨LC ht (.inr rfl),rfl,rfl⟩
 .cases h
def bj{op:BinOp}{args:List Aa}{u:Aa}(h:AE (.int op) args=some u):∃k a l b,args=[.int k a,.int l b]/\uS op k a l b=some u:=by
 simp only[AE] at h;split at h;.exact⟨_,_,_,_,rfl,h⟩
 .cases h
def bk{op:BinOp}{args:List Aa}{u:Aa}(h:AE (.str op) args=some u):∃a b,args=[.str a,.str b]/\kG op a b=some u:=by
 simp only[AE] at h;split at h;.exact⟨_,_,rfl,h⟩
 .cases h
def kR{op:BinOp}{t:TypeId}{p:RM}(hp:P5 P op t=some p)(f c:Operand){args:List Aa}{x y:Value}(ha:Bg γ args [x,y]){u:Aa}(h:AE p args=some u):
  ∃v,(do eqGuard op t f c x y;binOp op t x y:Sem Value).run P w= .ok v w/\BO γ u v:=by
 unfold P5 at hp;split at hp;.cases hp;obtain⟨k,a,l,b,rfl,h⟩:=bj h;obtain⟨_,_,e,hx,hy⟩:=ha.YX;cases e;rw[Ew hx,Ew hy];exact kL t f c h
 .cases hp;obtain⟨a,b,rfl,h⟩:=bk h;obtain⟨_,_,e,hx,hy⟩:=ha.YX;cases e;rw[N6 hx,N6 hy];exact kM t f c h
 .rename_i d h1 h2 hu;obtain⟨neg,NY,g⟩:∃neg,((op= .eql/\neg=false)\/(op= .neq/\neg=true))/\Tf P t neg d=some p:=by cases op<;>first|cases hp;done|exact⟨false,.inl ⟨rfl,rfl⟩,hp⟩|exact⟨true,.inr ⟨rfl,rfl⟩,hp⟩
  clear h1 h2 hp;have hp:=g;clear g;unfold Tf at hp;split at hp
  .cases hp;simp only[AE] at h;split at h;.obtain⟨_,_,e,hx,hy⟩:=ha.YX;cases e;cases h;rw[R4 hx,R4 hy];exact⟨_,kQ NY t f c hu _ _,rfl⟩
   .cases h
  .split at hp
   .rename_i hg;cases hk:Pb P 20 t with
    |none=>rw[hk] at hp;cases hp
    |some ks=>
     rw[hk] at hp;cases hp;simp only[AE] at h;split at h;.obtain⟨_,_,e,hx,hy⟩:=ha.YX;cases e;exact kP NY hg hk ⟨_,hu⟩ hx hy h
     .cases h
   .cases hp
  .split at hp;.cases hp
   .rename_i e hz;cases hp;simp only[AE] at h;split at h
    .rename_i a b;obtain⟨_,_,e,hx,hy⟩:=ha.YX;cases e;cases hq:uT a b with
     |none=>rw[hq] at h;cases h
     |some r=>rw[hq] at h;cases h;obtain⟨m,j,i⟩:=UR (w:=w) (d:=9999) hu (by cases YY:B3 P e with|none=>rw[YY] at hz;exact absurd rfl hz|some n=>cases n with|zero=>rw[YY] at hz;exact absurd rfl hz|succ n=>exact⟨n,rfl⟩) hx hy hq;exact⟨_,To NY t f c j i m,rfl⟩
    .cases h
  all_goals first
   |cases hp;done
   | (cases hp
      simp only [AE] at h
      split at h
      . rename_i a b
        obtain ⟨_, _, e, hx, hy⟩ := ha.YX
        cases e
        cases hq : uU _ a b with
        | none => rw [hq] at h; cases h
        | some r =>
          rw [hq] at h; cases h
          obtain ⟨m, j, i⟩ := US (w := w) (P := P) (t := t) (d := 9999) (by first | exact ⟨_, hu⟩ | exact ⟨_, _, hu⟩ | exact ⟨_, _, _, hu⟩) hx hy hq
          exact ⟨_, To NY t f c j i m, rfl⟩
      . cases h)
 .cases hp
end
end Go.Am
end
section
namespace Go.Am
open Go
section
variable{P:Program}{γ:Gh}{w:World}
def aAE{op:UnOp}{a u:Aa}{x:Value}(hx:BO γ a x)(h:aAu op a=some u):∃v,(Op.unary op x).run P w= .ok v w/\BO γ u v:=by
 unfold aAu at h;split at h;.cases h;rw[R4 hx];exact⟨_,rfl,rfl⟩
 .cases h;rw[Ew hx];exact⟨_,rfl,rfl⟩
 .rename_i k n;rw[Ew hx];unfold ĸ at h;cases hs:P3 (Op.unary .xor (.int k n)) with
  |none=>rw[hs] at h;cases h
  |some v=>
   rw[hs] at h;have b:=WD hs;simp only[Ct] at h;split at h;.cases h;exact⟨_,by rw[b];rfl,rfl⟩
   .cases h
 .cases h
def bP{src dst:TypeId}{k l k':IntKind}{n:Int}(hs:P.underlying src=some (.int l))(hd:P.underlying dst=some (.int k)):(convert src dst (.int k' n)).run P w= .ok (.int k (k.wrap n)) w:=by simp[convert,run_underlying hs,run_underlying hd,Conv.intToInt]
def bQ{src dst:TypeId}{l k':IntKind}{n:Int}(hs:P.underlying src=some (.int l))(hd:P.underlying dst=some .string):(convert src dst (.int k' n)).run P w= .ok (.string (Utf8.encode n)) w:=by simp[convert,run_underlying hs,run_underlying hd,Conv.intToString]
def bl{t:TypeId}{f off:Nat}{sh:Option Nat}(hf:It P t f=some (off,sh)){cs:List Aa}{x:Value}(hx:BO γ (.agg cs) x){u:Aa}(h:Ft cs off sh=some u):∃v,(Instr.field t x f).run P w= .ok v w/\BO γ u v:=by
 unfold It at hf;split at hf
 .rename_i fs hu;split at hf
  .rename_i fd vL;split at hf;.rename_i n b h1 h2;cases hf;obtain⟨us,rfl,hr,h1c⟩:=hx;obtain⟨v,p,q⟩:=kN (w:=w) h2 hr h1c h;exact⟨v,by simp[Instr.field,run_underlying hu,vL,asAgg,p],q⟩
   .cases hf
  .cases hf
 .cases hf
def Rc{i:Int}{len j:Nat}(h:L8 i len=some j):0<=i/\i<len/\i.toNat=j:=by
 unfold L8 at h;split at h;.rename_i hc;cases h;exact⟨hc.1,hc.2,rfl⟩
 .cases h
def YZ{t e:TypeId}{len n:Nat}{sh:Option Nat}(ht:P.underlying t=some (.array len e))(hn:B3 P e=some n)(oX:Fp P e=some sh){cs:List Aa}{x:Value}(hx:BO γ (.agg cs) x){k:IntKind}{i:Int}{j:Nat}
  (hi:L8 i len=some j) {u:Aa} (h:Ft cs (j*n) sh=some u):∃v,(Instr.index t x (.int k i)).run P w= .ok v w/\BO γ u v:=by
 obtain⟨us,rfl,hr,h1c⟩:=hx;obtain⟨d,c,b⟩:=Rc hi;obtain⟨v,p,q⟩:=kN (w:=w) oX hr h1c h;exact⟨v,by simp[Instr.index,asIntOf,run_underlying ht,d,c,DN hn,b,p],q⟩
def Y0{t:TypeId}(ht:P.underlying t=some .string){s:Ao}{k:IntKind}{i:Int}{b:UInt8}(h0:0<=i)(h:s[i.toNat]?=some b):
  (Instr.index t (.string ⟨⟨s⟩⟩) (.int k i)).run P w= .ok (.int .u8 b.toNat) w:=by
 obtain⟨hlt,hb⟩:=Al.1 h;have e:(⟨⟨s⟩⟩:ByteArray)[i.toNat]?=some b:=by rw[ByteArray.getElem?_lt' _ _ (show i.toNat<(⟨⟨s⟩⟩:ByteArray).size from hlt),<-hb];rfl
 simp[Instr.index,asIntOf,run_underlying ht,h0,e]
def vM{p u:Aa}{x:Value}{n:Nat}(hx:BO γ p x)(h:Wi p n=some u):∃a,x= .pointer (some a)/\BO γ u (.pointer (some (a.add n))):=by
 unfold Wi at h;split at h;.rename_i cs;cases h;obtain⟨b,o,rfl,hm⟩:=hx;refine⟨_,rfl,b,o+n,?_,hm.drop n⟩;unfold Addr.add;split<;>simp_all
 .rename_i id o;cases h;obtain⟨b,hb,rfl⟩:=hx;refine⟨_,rfl,b,hb,?_⟩;unfold Addr.add;split<;>simp_all
 .cases h
def kS{t:TypeId}{f off:Nat}{sh:Option Nat}(hf:It P t f=some (off,sh)){p u:Aa}{x:Value}(hx:BO γ p x)(h:Wi p off=some u):∃v,(Instr.fieldAt t x f).run P w= .ok v w/\BO γ u v:=by
 obtain⟨a,rfl,hu⟩:=vM hx h;refine⟨_,?_,hu⟩;unfold It at hf;split at hf
 .rename_i fs vK;split at hf
  .rename_i fd vL;split at hf;.rename_i n b h1 h2;cases hf;simp[Instr.fieldAt,run_underlying vK,vL,Instr.sureAddr,fieldPlace,DN h1]
   .cases hf
  .cases hf
 .cases hf
def pT{t e:TypeId}{n:Nat}(ht:P.underlying t=some (.slice e))(hn:B3 P e=some n){s u:Aa}{x:Value}(hx:BO γ s x){k:IntKind}{i:Int}(h:elemOf n s i=some u):
  ∃v,(Instr.indexAt t x (.int k i)).run P w= .ok v w/\BO γ u v:=by
 have Gg:P.underlying t=some (.slice (P.elem t)):=by simp[Program.elem,ht]
 have he:P.elem t=e:=by simp[Program.elem,ht]
 unfold elemOf at h;split at h
 .rename_i z AD;split at h
  .rename_i hz;subst hz;split at h
   .rename_i h0;cases hr:AD[i.toNat]? with
    |none=>rw[hr] at h;cases h
    |some row=>
     rw[hr] at h;cases h;obtain⟨d,cap,rfl,hc,hsp,hm⟩:=hx;obtain⟨hl,c⟩:=hm.get hr;have hlt:i<AD.length:=by have:=(Al.1 hr).1;omega
     have pU:=N2 hsp hc Ab;generalize d.block=b at*;generalize d.off=o at*;subst pU;refine⟨.pointer (some ((⟨b,o,none⟩:Addr).add (i.toNat*z))),by rw[run_indexAt_slice w t _ _ _ _ _ Gg,Ae ⟨h0,hlt⟩,he,DN hn];rfl,b,o+i.toNat*z,?_,c⟩;unfold Addr.add;split<;>simp_all
   .cases h
  .cases h
 .rename_i id off len z;split at h
  .rename_i hz;subst hz;cases hj:L8 i len with
   |none=>rw[hj] at h;cases h
   |some j=>rw[hj] at h;cases h;obtain⟨l,g,f⟩:=Rc hj;subst f;obtain⟨b,cap,hb,rfl,hc,hz⟩:=hx;refine⟨.pointer (some ((⟨b,off,none⟩:Addr).add (i.toNat*z))),by rw[run_indexAt_slice w t _ _ _ _ _ Gg,Ae ⟨l,g⟩,he,DN hn];rfl,b,hb,?_⟩;unfold Addr.add;split<;>simp_all
  .cases h
 .cases h
def bm{t e:TypeId}{len n:Nat}(ht:P.underlying t=some (.array len e))(hn:B3 P e=some n){p u:Aa}{x:Value}(hx:BO γ p x){k:IntKind}{i:Int}{j:Nat}(hj:L8 i len=some j)(h:Wi p (j*n)=some u):
  ∃v,(Instr.indexAt t x (.int k i)).run P w= .ok v w/\BO γ u v:=by
 have Gg:P.underlying t=some (.array (P.arrayLen t) (P.elem t)):=by simp[Program.elem,Program.arrayLen,ht]
 have he:P.elem t=e:=by simp[Program.elem,ht]
 have hl:P.arrayLen t=len:=by simp[Program.arrayLen,ht]
 obtain⟨a,rfl,hu⟩:=vM hx h;obtain⟨d,c,b⟩:=Rc hj;subst b;exact⟨_,by rw[run_indexAt_array w t _ _ _ Gg,hl,Ae ⟨d,c⟩,he,DN hn];rfl,hu⟩
def xr{t ty:TypeId}{isStr:Bool}(ht:if isStr=true then P.underlying t=some .string else∃e,P.underlying t=some (.slice e)){ts:Array TypeId}(bR:ts[0]?=some t){s u:Aa}{x:Value}(hx:BO γ s x)(h:lenOf isStr s=some u):
  ∃v,(Builtin.len_ ts ty #[x]).run P w= .ok v w/\BO γ u v:=by
 cases isStr with
 |true=>
  replace ht:P.underlying t=some .string:=ht;unfold lenOf at h;split at h<;>first|cases h;done|skip
  simp only[BL] at h;cases h;rw[N6 hx];refine⟨_,by simp[Builtin.len_,bR,run_underlying ht];rfl,rfl⟩
 |false=>
  obtain⟨e,ht⟩:∃e,P.underlying t=some (.slice e):=ht;unfold lenOf at h;split at h;.cases h;obtain⟨c,cap,rfl,_⟩:=hx;exact⟨_,by simp[Builtin.len_,bR,run_underlying ht];rfl,rfl⟩
  .cases h;obtain⟨b,cap,_,rfl,_⟩:=hx;exact⟨_,by simp[Builtin.len_,bR,run_underlying ht];rfl,rfl⟩
  .cases h;rw[show x= .slice none 0 0 from hx];exact⟨_,by simp[Builtin.len_,bR,run_underlying ht];rfl,rfl⟩
  .cases h;obtain⟨b,rfl⟩:=hx;exact⟨_,by simp[Builtin.len_,bR,run_underlying ht];rfl,rfl⟩
  .cases h
  .cases h
def xt{vs:List Aa}{x:Value}(hx:BO γ (.tuple vs) x){i:Nat}{u:Aa}(h:vs[i]?=some u):∃v,(Instr.extract x i).run P w= .ok v w/\BO γ u v:=by
 obtain⟨us,rfl,hr⟩:=hx;obtain⟨v,hv,q⟩:=hr.get h;exact⟨v,by
  have:us[i]?=some v:=by simpa using hv
  simp[Instr.extract,this],q⟩
end
end Go.Am
end
section
namespace Go.Am
open Go
section
variable{P:Program}{γ:Gh}{w:World}
def N7{n:Int}{top j:Nat}(h:E3 n top=some j):0<=n/\n<=top/\n.toNat=j:=by
 unfold E3 at h;split at h;.rename_i hc;cases h;exact⟨hc.1,hc.2,rfl⟩
 .cases h
def KH{lo hi:Option Value}{as:List Aa}{len cap l h:Nat}{isSlice:Bool}(hb:DX lo.isSome hi.isSome len as=some (l,h))(hr:Bg γ as (lo.toList++hi.toList))(hc:len<=cap):
  (Instr.sliceBounds isSlice len cap lo hi none).run P w= .ok (l,h,cap) w/\l<=h/\h<=len:=by
 cases lo<;>cases hi<;>simp only[Option.isSome,DX] at hb
 .split at hb;.cases hb;exact⟨by simp[Instr.sliceBounds],AQ _,Ag _⟩
  .cases hb
 .rename_i hv;split at hb
  .rename_i k h';cases b:E3 h' len with
   |none=>rw[b] at hb;cases hb
   |some j=>rw[b] at hb;cases hb;obtain⟨f,g,d⟩:=N7 b;obtain⟨_,e,hx⟩:=hr.one;cases e;rw[Ew hx];refine⟨?_,AQ _,Ab⟩;have:h'<=(cap:Int):=Ab;simp[Instr.sliceBounds,run_sliceBound,f,this,d]
  .cases hb
 .rename_i p;split at hb
  .rename_i k l';cases b:E3 l' len with
   |none=>rw[b] at hb;cases hb
   |some j=>rw[b] at hb;cases hb;obtain⟨f,g,d⟩:=N7 b;obtain⟨_,e,hx⟩:=hr.one;cases e;rw[Ew hx];refine⟨?_,Ab,Ag _⟩;simp[Instr.sliceBounds,run_sliceBound,f,g,d]
  .cases hb
 .rename_i p hv;split at hb
  .rename_i k l' k' h';cases b:E3 h' len with
   |none=>rw[b] at hb;cases hb
   |some j=>
    rw[b] at hb;simp only[Ct] at hb;cases c:E3 l' j with
    |none=>rw[c] at hb;cases hb
    |some i=>rw[c] at hb;cases hb;obtain⟨f,g,d⟩:=N7 b;obtain⟨o,n,m⟩:=N7 c;obtain⟨_,_,e,hx,hy⟩:=hr.YX;cases e;rw[Ew hx,Ew hy];refine⟨?_,Ab,Ab⟩;have:h'<=(cap:Int):=Ab;simp[Instr.sliceBounds,run_sliceBound,f,this,o,d,m,n]
  .cases hb
def E6.slice{AD:List (List Aa)}{z b o:Nat}(h:E6 γ AD z b o)(l k:Nat):E6 γ ((AD.take k).drop l) z b (o+l*z):=by
 refine E6.Hc λi r hi=>?_;rw[Cr,Ch] at hi;split at hi;.obtain⟨p,q⟩:=h.get hi;exact⟨p,by rw[show o+l*z+i*z=o+(l+i)*z by rw[BG];omega];exact q⟩
 .cases hi
def xu{t:TypeId}{isStr:Bool}{size:Nat}(ht:if isStr=true then P.underlying t=some .string else∃e,P.underlying t=some (.slice e)/\B3 P e=some size){s u:Aa}{x:Value}(hx:BO γ s x){as:List Aa}{lo hi:Option Value}
  (hr:Bg γ as (lo.toList++hi.toList)) (h:JB size isStr lo.isSome hi.isSome s as=some u):
  ∃v,(Instr.sliceAt t x lo hi none).run P w= .ok v w/\BO γ u v:=by
 unfold JB at h;split at h
 .split at h
  .rename_i s Qx;subst Qx;replace ht:P.underlying t=some .string:=ht;cases hb:DX lo.isSome hi.isSome s.length as with
   |none=>rw[hb] at h;cases h
   |some f=>
    obtain⟨l,k⟩:=f;rw[hb] at h;cases h;obtain⟨c,i,g⟩:=KH (P:=P) (w:=w) (isSlice:=false) hb hr (Ag _);rw[N6 hx,run_sliceAt_string w t _ _ _ _ ht];refine⟨.string ((⟨⟨s⟩⟩:ByteArray).extract l k),?_,?_⟩;.have e:(⟨⟨s⟩⟩:ByteArray).size=s.length:=rfl;simp only[Instr.slice,Sem.run_bind,run_underlying ht,Result.andThen_ok];simp only[e,c,Option.isSome,Cy,Ea,Sem.run_bind,Sem.run_pure,Result.andThen_ok]
    .show Value.string _=Value.string _;congr 1
     apply ByteArray.ext;apply HB;simp[ByteArray.data_extract,HM,List.drop_take]
  .cases h
 .rename_i z AD;split at h
  .rename_i hc;obtain⟨rfl,rfl⟩:=hc;obtain⟨e,ht,hn⟩:∃e,P.underlying t=some (.slice e)/\B3 P e=some z:=ht;have Gg:P.underlying t=some (.slice (P.elem t)):=by simp[Program.elem,ht]
   have he:P.elem t=e:=by simp[Program.elem,ht]
   obtain⟨d,cap,rfl,hc,hsp,hm⟩:=hx;cases hb:DX lo.isSome hi.isSome AD.length as with
   |none=>rw[hb] at h;cases h
   |some f=>
    obtain⟨l,k⟩:=f;rw[hb] at h;cases h;obtain⟨c,i,g⟩:=KH (P:=P) (w:=w) (isSlice:=true) hb hr hc;rw[run_sliceAt_slice w t _ _ _ _ Gg,run_slice_any w t _ _ _ Gg,c,he,Result.andThen_ok,DN hn];refine⟨_,rfl,?_⟩;show BO γ (.sl z ((AD.take k).drop l)) (.slice (if cap=l then some d else Option.map (λq:Addr=>q.add (l*z)) (some d)) (k-l) (cap-l));have hlen:((AD.take k).drop l).length=k-l:=Ee;by_cases hcl:cap=l;.have:(AD.take k).drop l=[]:=Dn Ab;rw[this];simp only[hcl,BL];exact⟨d,l-l,Ee,AH,.inr Ab,trivial⟩
    .rw[Ac hcl];have pU:d=⟨d.block,d.off,none⟩:=by
      rcases hsp with hsp|hsp
      .cases d;simp_all
      .omega
     generalize d.block=b at*;generalize d.off=o at*;subst pU;refine⟨⟨b,o+l*z,none⟩,cap-l,?_,Ab,.inl rfl,hm.slice l k⟩;rw[hlen];simp only[B9];unfold Addr.add;split<;>simp_all
  .cases h
 .rename_i id off n z;split at h
  .rename_i hc;obtain⟨rfl,rfl⟩:=hc;obtain⟨e,ht,hn⟩:∃e,P.underlying t=some (.slice e)/\B3 P e=some z:=ht;have Gg:P.underlying t=some (.slice (P.elem t)):=by simp[Program.elem,ht]
   have he:P.elem t=e:=by simp[Program.elem,ht]
   obtain⟨b,cap,xw,rfl,hc,hz,KW⟩:=hx;cases hb:DX lo.isSome hi.isSome n as with
   |none=>rw[hb] at h;cases h
   |some f=>
    obtain⟨l,k⟩:=f;rw[hb] at h;simp only[Ct] at h;split at h
    .rename_i pV;cases h;obtain⟨c,i,g⟩:=KH (P:=P) (w:=w) (isSlice:=true) hb hr hc;rw[run_sliceAt_slice w t _ _ _ _ Gg,run_slice_any w t _ _ _ Gg,c,he,Result.andThen_ok,DN hn];refine⟨_,rfl,b,cap-l,xw,?_,Ab,⟨hz.1,Bu (Nat.sub_le _ _) hz.2⟩,?_⟩;.show Value.slice (if cap=l then some ⟨b,off,none⟩ else Option.map (λq:Addr=>q.add (l*z)) (some ⟨b,off,none⟩)) (k-l) (cap-l)=_;rw[Ac Ab];simp only[B9];unfold Addr.add;split<;>simp_all
     .rw[KW,RD,<-BG,aIN Ab]
    .rename_i pV;cases h;obtain⟨c,i,g⟩:=KH (P:=P) (w:=w) (isSlice:=true) hb hr hc;rw[run_sliceAt_slice w t _ _ _ _ Gg,run_slice_any w t _ _ _ Gg,c,he,Result.andThen_ok,DN hn];have P7:k-l=0:=Ab;by_cases hcl:cap=l;.refine⟨_,rfl,⟨b,off,none⟩,cap-l,?_,AH,.inl rfl,trivial⟩;show Value.slice (if cap=l then some ⟨b,off,none⟩ else Option.map (λq:Addr=>q.add (l*z)) (some ⟨b,off,none⟩)) (k-l) (cap-l)=_;rw[Ae hcl,P7];rfl
     .refine⟨_,rfl,(Addr.mk b off none).add (l*z),cap-l,?_,AH,.inl ?_,trivial⟩;.show Value.slice (if cap=l then some ⟨b,off,none⟩ else Option.map (λq:Addr=>q.add (l*z)) (some ⟨b,off,none⟩)) (k-l) (cap-l)=_;rw[Ac hcl,P7];rfl
      .unfold Addr.add;split<;>simp_all
  .cases h
 .split at h;.cases h
  .rename_i Qx;have Qx:isStr=false:=by simpa using Qx
   subst Qx;obtain⟨e,ht,hn⟩:∃e,P.underlying t=some (.slice e)/\B3 P e=some size:=ht;have Gg:P.underlying t=some (.slice (P.elem t)):=by simp[Program.elem,ht]
   have he:P.elem t=e:=by simp[Program.elem,ht]
   rw[show x= .slice none 0 0 from hx];cases hb:DX lo.isSome hi.isSome 0 as with
   |none=>rw[hb] at h;cases h
   |some f=>obtain⟨l,k⟩:=f;rw[hb] at h;cases h;obtain⟨c,i,g⟩:=KH (P:=P) (w:=w) (isSlice:=true) hb hr (Ag _);rw[run_sliceAt_slice w t _ _ _ _ Gg,run_slice_any w t _ _ _ Gg,c,he,Result.andThen_ok,DN hn];refine⟨_,rfl,?_⟩;have:l=0:=Ab;subst this;have:k=0:=Ab;subst this;rfl
 .cases h
end
end Go.Am
end
section
namespace Go.Am
open Go
section
variable{P:Program}{γ:Gh}{w:World}
def Hs{a:Aa}{v:Value}(h:BO γ a v)(hn:0<a.cells.length):Bg γ a.cells v.cells.toList/\∀u∈v.cells.toList,u.oneCell'=true:=by
 cases a with
 |agg cs=>obtain⟨us,rfl,p,q⟩:=h;exact⟨p,q⟩
 |tuple vs=>exact absurd hn (by simp[Aa.cells])
 |bool b=>rw[show v=_ from h];exact⟨⟨_,[],rfl,rfl,rfl⟩,Rd⟩
 |int k n=>rw[show v=_ from h];exact⟨⟨_,[],rfl,rfl,rfl⟩,Rd⟩
 |str s=>rw[show v=_ from h];exact⟨⟨_,[],rfl,rfl,rfl⟩,Rd⟩
 |slnil=>rw[show v=_ from h];exact⟨⟨_,[],rfl,rfl,rfl⟩,Rd⟩
 |Gb z=>have h0:=h;obtain⟨b,rfl⟩:=h;exact⟨⟨_,[],rfl,h0,rfl⟩,Rd⟩
 |nilFunc=>rw[show v=_ from h];exact⟨⟨_,[],rfl,rfl,rfl⟩,Rd⟩
 |nilIface=>rw[show v=_ from h];exact⟨⟨_,[],rfl,rfl,rfl⟩,Rd⟩
 |ptr p=>
  have h0:=h;cases p with
  |none=>rw[show v=_ from h];exact⟨⟨_,[],rfl,rfl,rfl⟩,Rd⟩
  |some p=>obtain⟨i,o⟩:=p;obtain⟨b,_,rfl⟩:=h;exact⟨⟨_,[],rfl,h0,rfl⟩,Rd⟩
 |CG cs=>have h0:=h;obtain⟨b,o,rfl,_⟩:=h;exact⟨⟨_,[],rfl,h0,rfl⟩,Rd⟩
 |sl z AD=>have h0:=h;obtain⟨d,cap,rfl,_⟩:=h;exact⟨⟨_,[],rfl,h0,rfl⟩,Rd⟩
 |CE id off len z=>have h0:=h;obtain⟨b,cap,_,rfl,_⟩:=h;exact⟨⟨_,[],rfl,h0,rfl⟩,Rd⟩
 |map m=>
  have h0:=h;cases m with
  |none=>rw[show v=_ from h];exact⟨⟨_,[],rfl,rfl,rfl⟩,Rd⟩
  |some id=>obtain⟨b,_,rfl⟩:=h;exact⟨⟨_,[],rfl,h0,rfl⟩,Rd⟩
 |func fn f c=>have h0:=h;obtain⟨fs,cs,rfl,_⟩:=h;exact⟨⟨_,[],rfl,h0,rfl⟩,Rd⟩
 |iface t a=>have h0:=h;obtain⟨u,rfl,_⟩:=h;exact⟨⟨_,[],rfl,h0,rfl⟩,Rd⟩
def N8:∀(vs:List Value) (off j:Nat) (cells:Array Value),off+j+vs.length<=cells.size->
  (vs.zipIdx j).foldl (λcs (c,i)=>cs.setIfInBounds (off+i) c) cells=(cells.toList.take (off+j)++vs++cells.toList.drop (off+j+vs.length)).toArray
 |[],off,j,cells,h=>AH
 |v::vs,off,j,cells,h=>by
  simp only[uO,jd];rw[N8 vs off (j+1) _ (by simp at h⊢;omega)];simp only[A9] at h;have hk:off+j<cells.toList.length:=Ee;have e0:(cells.setIfInBounds (off+j) v).toList=cells.toList.set (off+j) v:=AH;have d:(cells.toList.set (off+j) v).take (off+j+1)=cells.toList.take (off+j)++[v]:=by rw[List.take_add_one,OP (Ag _),AS hk];rfl
  have b:(cells.toList.set (off+j) v).drop (off+j+1+vs.length)=cells.toList.drop (off+j+1+vs.length):=Zw Ab;rw[e0,(Ab:off+(j+1)=off+j+1),d,b];rw[(Ee:off+j+(v::vs).length=off+j+1+vs.length)];simp
def WG{place:Nat->Option (Nat×Nat)}:∀{places:List (Nat×Nat)} {as:List Aa} {parts:List (Nat×Value)} {cs:List Aa} {us:Array Value} {GX:List Aa},AP cs (places.zip as)=some GX->places.length=as.length->
  parts.map (λp=>place p.1)=places.map some->Bg γ as (parts.map (·.2))->Bg γ cs us.toList->(∀u∈us.toList,u.oneCell'=true)->
  ∃DK,Instr.fill place us parts=some DK/\Bg γ GX DK.toList/\∀u∈DK.toList,u.oneCell'=true
 |[],as,parts,cs,us,GX,h,hl,hp,ha,hr,h1=>by
  have:parts=[]:=by simpa using hp
  subst this;simp only[List.zip_nil_left,AP] at h;cases h;exact⟨us,rfl,hr,h1⟩
 |(off,size)::places,[],parts,cs,us,GX,h,hl,hp,ha,hr,h1=>by simp at hl
 |(off,size)::places,a::as,[],cs,us,GX,h,hl,hp,ha,hr,h1=>by simp at hp
 |(off,size)::places,a::as,(i,v)::parts,cs,us,GX,h,hl,hp,ha,hr,h1=>by
  simp only[aMS,AP] at h;split at h
  .rename_i hc;obtain⟨o,n,m⟩:=hc;simp only[Bk,E1] at hp;obtain⟨_,_,e,WH,b⟩:=ha.Me;simp only[Bk,E1] at e;obtain⟨l,k⟩:=e;subst l;subst k;obtain⟨c,g⟩:=Hs WH Ab;have KW:v.cells.size=size:=by have:=c.length;simp at this;omega
   have ZE:us.size=cs.length:=by have:=hr.length;simpa using this
   have hf:=N8 v.cells.toList off 0 us (by simp[KW];omega);obtain⟨DK,f,r2,d⟩:=WG (place:=place) (us:=(us.toList.take off++v.cells.toList++us.toList.drop (off+size)).toArray) h (by simpa using hl) hp.2 b
    (by simpa using((hr.take off).append c).append (hr.drop (off+size)))
    (λu hu=>by
     simp only[Ax] at hu;rcases hu with(hu|hu)|hu
     .exact h1 u (Bm hu)
     .exact g u hu
     .exact h1 u (BB hu))
   refine⟨DK,?_,r2,d⟩;rw[Instr.fill];simp only[hp.1];rw[Ac (by simp[KW];omega)];rw[<-f];congr 1
   have j:v.cells.toList.length=size:=by simpa using KW
   rw[<-aMT,aIO,hf];simp[j]
  .cases h
def Y1{v:Value}{a:Aa}(h:KV v=some a):Bg γ a.cells v.cells.toList/\∀u∈v.cells.toList,u.oneCell'=true:=by
 have hr:=Fu (γ:=γ) h;unfold KV at h;split at h
 .rename_i cs;cases hs:L2 cs.toList with
  |none=>rw[hs] at h;cases h
  |some as=>rw[hs] at h;cases h;exact M8 hs
 .refine Hs hr ?_;unfold O5 at h;split at h<;>first|(cases h;simp[Aa.cells];done)|skip
  .split at h;.cases h;simp[Aa.cells]
   .cases h
  .cases h
def OF{t:TypeId}{fs:Array Field}(hu:P.underlying t=some (.struct fs)){place:Nat->Option (Nat×Nat)}(bS:∀(i:Nat) (f:Field) (n:Nat),fs[i]?=some f->B3 P f.type=some n->place i=some (f.offset,n)):
  ∀{parts:List (Nat×Operand)} {ps:List (Nat×Nat)},Ka P t parts=some ps->parts.map (λp=>place p.1)=ps.map some
 |[],ps,h=>by cases h;rfl
 |(i,x)::rest,ps,h=>by
  simp only[Ka,hu] at h;split at h
  .rename_i f hf;split at h;.rename_i n r h1 h2;cases h;simp[bS i f n hf h1,OF hu bS h2]
   .cases h
  .cases h
def Ph{t e:TypeId}{len n:Nat}(hu:P.underlying t=some (.array len e))(hn:B3 P e=some n):
  ∀{parts:List (Nat×Operand)} {ps:List (Nat×Nat)},Ka P t parts=some ps->parts.map (λp=>some (p.1*n,n))=ps.map some
 |[],ps,h=>by cases h;rfl
 |(i,x)::rest,ps,h=>by
  simp only[Ka,hu] at h;split at h
  .split at h;.rename_i n' r h1 h2;cases h;rw[hn] at h1;cases h1;simp[Ph hu hn h2]
   .cases h
  .cases h
def T9:∀(fs:List Field),(fs.all λf=>(B3 P f.type).isSome)=true->∃places,fs.mapM (λf=>(P.info? f.type).map λi=>(f.offset,i.size))=some places/\
  ∀(i:Nat) (f:Field) (n:Nat),fs[i]?=some f->B3 P f.type=some n->places[i]?=some (f.offset,n)
 |[],_=>⟨[],rfl,AH⟩
 |f::fs,h=>by
  simp only[bI,Bq] at h;obtain⟨rest,h1,h2⟩:=T9 fs h.2;cases hi:P.info? f.type with
  |none=>simp[B3,hi] at h
  |some b=>
   refine⟨(f.offset,b.size)::rest,by simp[hi,h1],λi g n hg hn=>?_⟩;cases i with
   |zero=>simp at hg;subst hg;simp[B3,hi] at hn;simp[hn]
   |succ i=>simpa using h2 i g n (by simpa using hg) hn
def bn{t:TypeId}{z:Aa}{parts:Array (Nat×Operand)}{ps:List (Nat×Nat)}{O:Operand->Value}(hz:Ha P t=some z)(hp:Ka P t parts.toList=some ps)(hb:Vu P t=true){as:List Aa}
  (ha:Bg γ as ((parts.toList.map (·.2)).map O)) {u:Aa} (h:AE (.Cm z.cells ps) as=some u):∃v,(Instr.build t (parts.map λ(i,x)=>(i,O x))).run P w= .ok v w/\BO γ u v:=by
 simp only[AE] at h;split at h
 .rename_i hl;cases hf:AP z.cells (ps.zip as) with
  |none=>rw[hf] at h;cases h
  |some cs=>
   rw[hf] at h;cases h;unfold Ha at hz;cases hi:P.info? t with
   |none=>rw[hi] at hz;cases hz
   |some d=>
    cases YY:d.zero with
    |none=>rw[hi] at hz;simp[YY] at hz
    |some k=>
     rw[hi] at hz;simp only[Ct,YY] at hz;obtain⟨c,z2⟩:=Y1 (γ:=γ) hz;have hparts:((parts.map λ(i,x)=>(i,O x)).toList.map (·.2))=(parts.toList.map (·.2)).map O:=AH;unfold Vu at hb;split at hb
     .rename_i fs hu;obtain⟨places,j,g⟩:=T9 fs.toList hb;obtain⟨DK,f1,f2,f3⟩:=WG (place:=λi=>places.toArray[i]?) (parts:=(parts.map λ(i,x)=>(i,O x)).toList) hf hl
       (by have:=OF hu (place:=λi=>places.toArray[i]?) (λi f n h1 h2=>by simpa using g i f n (by simpa using h1) h2) hp;rw[<-this];simp) (by rw[hparts];exact ha) c z2
      exact⟨.agg DK,run_build w t _ _ (by unfold Program.built;simp only[hi,hu,YY,j];exact f1),DK,rfl,f2,f3⟩
     .rename_i len e hu;cases he:P.info? e with
      |none=>simp[B3,he] at hb
      |some b=>
       obtain⟨DK,f1,f2,f3⟩:=WG (place:=λi=>some (i*b.size,b.size)) (parts:=(parts.map λ(i,x)=>(i,O x)).toList) hf hl
        (by have:=Ph hu (n:=b.size) (by simp[B3,he]) hp;rw[<-this];simp) (by rw[hparts];exact ha) c z2
       exact⟨.agg DK,run_build w t _ _ (by unfold Program.built;simp only[hi,hu,YY,he];exact f1),DK,rfl,f2,f3⟩
     .cases hb
 .cases h
end
end Go.Am
end
section
namespace Go.Am
open Go
def RM.still:RM->Bool
 | .append _ _| .Dh _| .Gb _| .s2b| .Wh=>false
 |_=>true
def Ht{o:kF}{dst:Option Nat}{x:Option (List Aa)}{r:EJ}(h:Th o dst x=some r):∃args,x=some args/\r= .mem o args dst:=by
 unfold Th at h;split at h;.cases h;exact⟨_,rfl,rfl⟩
 .cases h
def Lf{o:kF}{dst:Option Nat}{x:Option (List Aa)}{p:RM}{args:List Aa}{d:Option Nat}{Bt:Bool}{b:Option (Nat×Aa)}:¬Th o dst x=some (.op p args d Bt b):=λh=>by obtain⟨_,_,e⟩:=Ht h;cases e
def DZ{p:RM}{dst:Option Nat}{x:Option (List Aa)}{r:EJ}(h:Tg p dst x=some r):∃args,x=some args/\r= .op p args dst false none:=by
 cases x with
 |none=>cases h
 |some args=>cases h;exact⟨args,rfl,rfl⟩
section
variable{C:FW}{γ0 γ:Gh}{w0 w:World}{Z:Nat->Nat}{U:BR}{h:Ah}{a:Act}{fid:FuncId}{ops:List Oper}
def Ib(P:Program)(γ:Gh)(a:Act)(o:Oper)(w:World)(p:RM)(args:List Aa):Prop:=
 ∀u,AE p args=some u->∃v,(execOp a.eval o).run P w= .ok (.value v) w/\BO γ u v
def EW{P:Program}{s:Sem Value}{v:Value}(hs:s.run P w= .ok v w):(do pure (Next.value (<-s)):Sem Next).run P w= .ok (.value v) w:=by simp[hs]
def pW{o:Oper}{c x y:Operand}(ho:o.op= .pick c x y)(hr:C9 C γ0 w0 γ Z U h a w){args:List Aa}(ha:Bx C U [c,x,y]=some args):Ib C.P γ a o w .pick args:=by
 intro u hu;simp only[AE] at hu;split at hu;.rename_i b p q;cases hu;obtain⟨_,_,_,e,h1,h2,d⟩:=(DY hr ha).T8;simp only[Bk,CW,E1] at e;obtain⟨i,g,f,_⟩:=e;rw[<-i] at h1;rw[<-g] at h2;rw[<-f] at d;refine⟨if b then a.eval x else a.eval y,?_,by cases b<;>simpa⟩;simp[execOp,ho,R4 h1,asBool]
 .cases hu
def bo{o:Oper}{op:BinOp}{t:TypeId}{x y:Operand}{p:RM}(hp:P5 C.P op t=some p)(he:execOp a.eval o=(do pure (Next.value (<-(do eqGuard op t x y (a.eval x) (a.eval y);binOp op t (a.eval x) (a.eval y):Sem Value)))))
  (hr:C9 C γ0 w0 γ Z U h a w) {args:List Aa} (ha:Bx C U [x,y]=some args):Ib C.P γ a o w p args:=by
 intro u hu;obtain⟨v,c,b⟩:=kR (w:=w) hp x y (DY hr ha) hu;exact⟨v,by rw[he];exact EW c,b⟩
def GN(hr:C9 C γ0 w0 γ Z U h a w){x:Operand}{args:List Aa}(ha:Bx C U [x]=some args):∃u,args=[u]/\BO γ u (a.eval x):=by
 have h1:=DY hr ha;cases args with
 |nil=>cases h1
 |cons u us=>
  obtain⟨_,_,e,h2,b⟩:=h1.Me;cases e;cases us with
  |nil=>exact⟨u,rfl,h2⟩
  |cons _ _=>obtain⟨_,_,e,_⟩:=b.Me;cases e
def Fc(hr:C9 C γ0 w0 γ Z U h a w){x y:Operand}{args:List Aa}(ha:Bx C U [x,y]=some args):∃u v,args=[u,v]/\BO γ u (a.eval x)/\BO γ v (a.eval y):=by
 have h1:=DY hr ha;cases args with
 |nil=>cases h1
 |cons u us=>
  obtain⟨_,_,e,h2,b⟩:=h1.Me;cases e;cases us with
  |nil=>cases b
  |cons v vs=>
   obtain⟨_,_,e,d,c⟩:=b.Me;cases e;cases vs with
   |nil=>exact⟨u,v,rfl,h2,d⟩
   |cons _ _=>obtain⟨_,_,e,_⟩:=c.Me;cases e
def ma{o:Oper}{op:UnOp}{x:Operand}(he:execOp a.eval o=(do pure (Next.value (<-Op.unary op (a.eval x)))))
  (hr:C9 C γ0 w0 γ Z U h a w) {args:List Aa} (ha:Bx C U [x]=some args):Ib C.P γ a o w (.un op) args:=by
 intro u hu;obtain⟨v,rfl,h1⟩:=GN hr ha;simp only[AE] at hu;obtain⟨r,c,b⟩:=aAE (P:=C.P) (w:=w) h1 hu;exact⟨r,by rw[he];exact EW c,b⟩
def pX{o:Oper}{src dst:TypeId}{k l:IntKind}{x:Operand}(hs:C.P.underlying src=some (.int l))(hd:C.P.underlying dst=some (.int k))(he:execOp a.eval o=(do pure (Next.value (<-convert src dst (a.eval x)))))
  (hr:C9 C γ0 w0 γ Z U h a w) {args:List Aa} (ha:Bx C U [x]=some args):Ib C.P γ a o w (.conv k) args:=by
 intro u hu;obtain⟨v,rfl,h1⟩:=GN hr ha;simp only[AE] at hu;split at hu;.rename_i e;cases e;cases hu;rw[Ew h1] at he;exact⟨_,by rw[he];exact EW (bP hs hd),rfl⟩
 .cases hu
def bq{o:Oper}{src dst:TypeId}{l:IntKind}{x:Operand}(hs:C.P.underlying src=some (.int l))(hd:C.P.underlying dst=some .string)(he:execOp a.eval o=(do pure (Next.value (<-convert src dst (a.eval x)))))
  (hr:C9 C γ0 w0 γ Z U h a w) {args:List Aa} (ha:Bx C U [x]=some args):Ib C.P γ a o w .i2s args:=by
 intro u hu;obtain⟨v,rfl,h1⟩:=GN hr ha;simp only[AE] at hu;split at hu;.rename_i e;cases e;cases hu;rw[Ew h1] at he;exact⟨_,by rw[he];exact EW (bQ hs hd),rfl⟩
 .cases hu
def kT{o:Oper}{t:TypeId}{x:Operand}{f off:Nat}{sh:Option Nat}(hf:It C.P t f=some (off,sh))(he:execOp a.eval o=(do pure (Next.value (<-Instr.field t (a.eval x) f))))
  (hr:C9 C γ0 w0 γ Z U h a w) {args:List Aa} (ha:Bx C U [x]=some args):Ib C.P γ a o w (.part off sh) args:=by
 intro u hu;obtain⟨v,rfl,h1⟩:=GN hr ha;simp only[AE] at hu;split at hu;.rename_i e;cases e;obtain⟨r,c,b⟩:=bl (w:=w) hf h1 hu;exact⟨r,by rw[he];exact EW c,b⟩
 .cases hu
def UT{o:Oper}{t:TypeId}{x:Operand}{f off:Nat}{sh:Option Nat}(hf:It C.P t f=some (off,sh))(he:execOp a.eval o=(do pure (Next.value (<-Instr.fieldAt t (a.eval x) f))))
  (hr:C9 C γ0 w0 γ Z U h a w) {args:List Aa} (ha:Bx C U [x]=some args):Ib C.P γ a o w (.K8 off) args:=by
 intro u hu;obtain⟨v,rfl,h1⟩:=GN hr ha;simp only[AE] at hu;obtain⟨r,c,b⟩:=kS (w:=w) hf h1 hu;exact⟨r,by rw[he];exact EW c,b⟩
def br{o:Oper}{x:Operand}{i:Nat}(he:execOp a.eval o=(do pure (Next.value (<-Instr.extract (a.eval x) i))))
  (hr:C9 C γ0 w0 γ Z U h a w) {args:List Aa} (ha:Bx C U [x]=some args):Ib C.P γ a o w (.ext i) args:=by
 intro u hu;obtain⟨v,rfl,h1⟩:=GN hr ha;simp only[AE] at hu;split at hu;.rename_i e;cases e;obtain⟨r,c,b⟩:=xt (P:=C.P) (w:=w) h1 hu;exact⟨r,by rw[he];exact EW c,b⟩
 .cases hu
def UU{o:Oper}{t:TypeId}{x y:Operand}(ht:C.P.underlying t=some .string)(he:execOp a.eval o=(do pure (Next.value (<-Instr.index t (a.eval x) (a.eval y)))))
  (hr:C9 C γ0 w0 γ Z U h a w) {args:List Aa} (ha:Bx C U [x,y]=some args):Ib C.P γ a o w .YV args:=by
 intro u hu;obtain⟨p,q,rfl,h1,h2⟩:=Fc hr ha;simp only[AE] at hu;split at hu
 .rename_i e;cases e;split at hu
  .rename_i s k i h0;cases hb:s[i.toNat]? with
   |none=>rw[hb] at hu;cases hu
   |some b=>rw[hb] at hu;cases hu;rw[N6 h1,Ew h2] at he;exact⟨_,by rw[he];exact EW (Y0 ht h0 hb),rfl⟩
  .cases hu
 .cases hu
def UW{o:Oper}{t e:TypeId}{len n:Nat}{sh:Option Nat}{x y:Operand}(ht:C.P.underlying t=some (.array len e))(hn:B3 C.P e=some n)(oX:Fp C.P e=some sh)(he:execOp a.eval o=(do pure (Next.value (<-Instr.index t (a.eval x) (a.eval y)))))
  (hr:C9 C γ0 w0 γ Z U h a w) {args:List Aa} (ha:Bx C U [x,y]=some args):Ib C.P γ a o w (.aAt len n sh) args:=by
 intro u hu;obtain⟨p,q,rfl,h1,h2⟩:=Fc hr ha;simp only[AE] at hu;split at hu
 .rename_i e;cases e;rename_i cs k i;cases hb:L8 i len with
  |none=>rw[hb] at hu;cases hu
  |some j=>rw[hb] at hu;simp only[Ct] at hu;rw[Ew h2] at he;obtain⟨r,c,b⟩:=YZ (w:=w) (k:=k) ht hn oX h1 hb hu;exact⟨r,by rw[he];exact EW c,b⟩
 .cases hu
def WI{o:Oper}{t e:TypeId}{n:Nat}{x y:Operand}(ht:C.P.underlying t=some (.slice e))(hn:B3 C.P e=some n)(he:execOp a.eval o=(do pure (Next.value (<-Instr.indexAt t (a.eval x) (a.eval y)))))
  (hr:C9 C γ0 w0 γ Z U h a w) {args:List Aa} (ha:Bx C U [x,y]=some args):Ib C.P γ a o w (.E2 n) args:=by
 intro u hu;obtain⟨p,q,rfl,h1,h2⟩:=Fc hr ha;simp only[AE] at hu;split at hu;.rename_i e;cases e;rename_i k i;rw[Ew h2] at he;obtain⟨r,c,b⟩:=pT (w:=w) (k:=k) ht hn h1 hu;exact⟨r,by rw[he];exact EW c,b⟩
 .cases hu
def Y2{o:Oper}{t e:TypeId}{len n:Nat}{x y:Operand}(ht:C.P.underlying t=some (.array len e))(hn:B3 C.P e=some n)(he:execOp a.eval o=(do pure (Next.value (<-Instr.indexAt t (a.eval x) (a.eval y)))))
  (hr:C9 C γ0 w0 γ Z U h a w) {args:List Aa} (ha:Bx C U [x,y]=some args):Ib C.P γ a o w (.T2 len n) args:=by
 intro u hu;obtain⟨p,q,rfl,h1,h2⟩:=Fc hr ha;simp only[AE] at hu;split at hu
 .rename_i e;cases e;rename_i k i;cases hb:L8 i len with
  |none=>rw[hb] at hu;cases hu
  |some j=>rw[hb] at hu;simp only[Ct] at hu;rw[Ew h2] at he;obtain⟨r,c,b⟩:=bm (w:=w) (k:=k) ht hn h1 hb hu;exact⟨r,by rw[he];exact EW c,b⟩
 .cases hu
def Ua{o:Oper}{t:TypeId}{x:Operand}{lo hi:Option Operand}{isStr:Bool}{size:Nat}(ht:if isStr=true then C.P.underlying t=some .string else∃e,C.P.underlying t=some (.slice e)/\B3 C.P e=some size)
  (he:execOp a.eval o=(do pure (Next.value (<-Instr.sliceAt t (a.eval x) (lo.map a.eval) (hi.map a.eval) none))))
  (hr:C9 C γ0 w0 γ Z U h a w) {args:List Aa} (ha:Bx C U (x::(lo.toList++hi.toList))=some args):Ib C.P γ a o w (.KA size isStr lo.isSome hi.isSome) args:=by
 intro u hu;have h1:=DY hr ha;cases args with
 |nil=>cases h1
 |cons s as=>obtain⟨_,_,e,h2,d⟩:=h1.Me;cases e;simp only[AE] at hu;obtain⟨r,c,b⟩:=xu (P:=C.P) (w:=w) (lo:=lo.map a.eval) (hi:=hi.map a.eval) ht h2 (by cases lo<;>cases hi<;>simpa using d) (by simpa using hu);exact⟨r,by rw[he];exact EW c,b⟩
def kU{o:Oper}{t:TypeId}{parts:Array (Nat×Operand)}{z:Aa}{ps:List (Nat×Nat)}(hz:Ha C.P t=some z)(hp:Ka C.P t parts.toList=some ps)(hb:Vu C.P t=true)
  (he:execOp a.eval o=(do pure (Next.value (<-Instr.build t (parts.map λ(i,x)=>(i,a.eval x))))))
  (hr:C9 C γ0 w0 γ Z U h a w) {args:List Aa} (ha:Bx C U (parts.toList.map (·.2))=some args):Ib C.P γ a o w (.Cm z.cells ps) args:=by
 intro u hu;obtain⟨r,c,b⟩:=bn (w:=w) hz hp hb (DY hr ha) hu;exact⟨r,by rw[he];exact EW c,b⟩
def bT{o:Oper}{x:Operand}(ho:o.op= .nilCheck x)(hr:C9 C γ0 w0 γ Z U h a w){args:List Aa}(ha:Bx C U [x]=some args):Ib C.P γ a o w .JI args:=by
 intro u hu;obtain⟨v,rfl,h1⟩:=GN hr ha;simp only[AE,kH] at hu;split at hu;.rename_i p;cases hu;obtain⟨i,k⟩:=p;obtain⟨b,hb,hv⟩:=h1;exact⟨_,by simp only[execOp,ho,hv];rfl,b,hb,rfl⟩
 .cases hu;obtain⟨b,k,hv,hm⟩:=h1;exact⟨_,by simp only[execOp,ho,hv];rfl,b,k,rfl,hm⟩
 .cases hu;obtain⟨fs,cs,hv,p,q⟩:=h1;exact⟨_,by simp only[execOp,ho,hv];rfl,fs,cs,rfl,p,q⟩
 .cases hu
def M9:∀{xs:List Operand} {us:List Aa},Bx C U xs=some us->us.length=xs.length
 |[],us,h=>by cases h;rfl
 |x::xs,us,h=>by
  unfold Bx at h;split at h;.rename_i u DK h1 h2;cases h;simp[M9 h2]
  .cases h
def N9{P:Program}{o:Oper}{c:Call}{b:Builtin}{s:Sem Value}(ho:o.op= .call c)(hc:c.callee= .builtin b)(hs:builtin b c.argTypes o.type (c.args.map λ| .const _=>true|_=>false) (c.args.map a.eval)=(do pure (Next.value (<-s)))){v:Value}
  (hv:s.run P w= .ok v w):(execOp a.eval o).run P w= .ok (.value v) w:=by
 have:execOp a.eval o=(do pure (Next.value (<-s))):=by rw[<-hs];simp only[execOp,ho,resolve,hc];rfl
 rw[this];exact EW hv
def ZJ{o:Oper}{c:Call}{t:TypeId}{isStr:Bool}(ho:o.op= .call c)(hc:c.callee= .builtin .len)(h0:c.argTypes[0]?=some t)(ht:if isStr=true then C.P.underlying t=some .string else∃e,C.P.underlying t=some (.slice e))
  (hr:C9 C γ0 w0 γ Z U h a w) {args:List Aa} (ha:Bx C U c.args.toList=some args):Ib C.P γ a o w (.len isStr) args:=by
 intro u hu;simp only[AE] at hu;split at hu
 .rename_i s;have hl:=M9 ha;obtain⟨x,hx⟩:∃x,c.args.toList=[x]:=aDa.1 hl.symm;rw[hx] at ha;obtain⟨_,e,h1⟩:=GN hr ha;cases e;obtain⟨r,d,b⟩:=xr (P:=C.P) (w:=w) (ty:=o.type) ht h0 h1 hu;have e:c.args.map a.eval=#[a.eval x]:=by apply HB;simp[hx]
  exact⟨r,N9 ho hc (s:=Builtin.len_ c.argTypes o.type #[a.eval x]) (by rw[e];rfl) d,b⟩
 .cases hu
def R5{o:Oper}{c:Call}{isMax:Bool}(ho:o.op= .call c)(hc:c.callee= .builtin (if isMax then .max else .min))(hr:C9 C γ0 w0 γ Z U h a w){args:List Aa}(ha:Bx C U c.args.toList=some args):Ib C.P γ a o w (.Lw isMax) args:=by
 intro u hu;simp only[AE] at hu;split at hu
 .rename_i k p l q;split at hu
  .rename_i hk;subst hk;cases hu;have hl:=M9 ha;obtain⟨x,y,hx⟩:∃x y,c.args.toList=[x,y]:=by
    cases hq:c.args.toList with
    |nil=>rw[hq] at hl;simp at hl
    |cons x xs=>cases xs with
     |nil=>rw[hq] at hl;simp at hl
     |cons y ys=>cases ys with
      |nil=>exact⟨x,y,rfl⟩
      |cons _ _=>rw[hq] at hl;simp at hl
   rw[hx] at ha;obtain⟨_,_,e,h1,h2⟩:=Fc hr ha;cases e;have e:c.args.map a.eval=#[.int k p,.int k q]:=by apply HB;simp[hx,Ew h1,Ew h2]
   cases isMax with
   |true=>exact⟨_,N9 ho hc (s:=Builtin.max_ c.argTypes o.type #[.int k p,.int k q]) (by rw[e];rfl) (by simp[Builtin.max_,Builtin.max2]),rfl⟩
   |false=>exact⟨_,N9 ho hc (s:=Builtin.min_ c.argTypes o.type #[.int k p,.int k q]) (by rw[e];rfl) (by simp[Builtin.min_,Builtin.min2]),rfl⟩
  .cases hu
 .cases hu
end
end Go.Am
end
section
namespace Go.Am
open Go
section
variable{C:FW}{γ0 γ:Gh}{w0 w:World}{Z:Nat->Nat}{U:BR}{h:Ah}{a:Act}{fid:FuncId}{ops:List Oper}
def MP{x:Operand}{d:Nat}{take:Bool}{r:EJ}(h:KG C U x d take=some r):∃ws,r= .pure ws:=by
 unfold KG at h;split at h;.cases h;exact⟨_,rfl⟩
 .cases h;exact⟨_,rfl⟩
 .split at h;.cases h;exact⟨_,rfl⟩
  .cases hc:Iu _ with
   |none=>rw[hc] at h;cases h
   |some s=>rw[hc] at h;cases h;exact⟨_,rfl⟩
 .cases hc:Iu _ with
  |none=>rw[hc] at h;cases h
  |some s=>rw[hc] at h;cases h;exact⟨_,rfl⟩
 .cases h
def ZK{t:TypeId}{v:Aa}{d:Nat}{p:RM}{args:List Aa}{dst:Option Nat}{Bt:Bool}{b:Option (Nat×Aa)}:T5 C fid t v d≠some (.op p args dst Bt b):=by
 unfold T5;intro h;split at h;.cases h
 .split at h;.cases h
  .split at h<;>cases h
def pY{t:TypeId}{x:Operand}{d:Nat}{take:Bool}{p:RM}{args:List Aa}{dst:Option Nat}{Bt:Bool}{b:Option (Nat×Aa)}:LA C U t x d take≠some (.op p args dst Bt b):=by
 unfold LA;intro h;split at h;.cases h
 .split at h;.simp only at h;split at h<;>cases h
  .cases h
 .split at h<;>cases h
 .cases h
def kW{t:TypeId}{x y:Operand}{p:RM}{args:List Aa}{dst:Option Nat}{Bt:Bool}{b:Option (Nat×Aa)}:JC C U t x y≠some (.op p args dst Bt b):=by
 unfold JC;intro h;split at h;.cases h
 .split at h<;>cases h
 .cases h
def bt{o:Oper}{p:RM}{args:List Aa}{dst:Option Nat}{Bt:Bool}{j:Option (Nat×Aa)}(hc:Gl C fid ops U o=some (.op p args dst Bt j))(HR:p.still=true)(hr:C9 C γ0 w0 γ Z U h a w):
  Ib C.P γ a o w p args/\dst=o.dst/\Bt=false/\j=none:=by
 unfold Gl at hc
 split at hc
 .split at hc
  .obtain⟨ws,e⟩:=MP hc;cases e
  .cases hc
 .split at hc
  .obtain⟨ws,e⟩:=MP hc;cases e
  .cases hc
 .rename_i c x y ho
  split at hc
  .obtain⟨ws,e⟩:=MP hc;cases e
  .obtain⟨ws,e⟩:=MP hc;cases e
  .obtain⟨as,g,b⟩:=DZ hc
   cases b
   exact⟨pW ho hr g,rfl,rfl,rfl⟩
 .split at hc
  .split at hc
   .split at hc<;>cases hc
   .exact absurd hc ZK
  .cases hc
 .split at hc
  .exact absurd hc ZK
  .cases hc
 .rename_i t parts ho
  split at hc
  .rename_i z ps hz hp
   split at hc
   .rename_i hb
    obtain⟨as,g,b⟩:=DZ hc
    cases b
    exact⟨kU hz hp hb (by simp[execOp,ho]) hr g,rfl,rfl,rfl⟩
   .cases hc
  .cases hc
 .split at hc
  .split at hc
   .split at hc
    .split at hc
     .cases hc;cases HR
     .cases hq:Bx C U _ with
      |none=>rw[hq] at hc;cases hc
      |some q=>rw[hq] at hc;cases hc;cases HR
    .cases hc
   .cases hc
  .cases hc
 .split at hc
  .exact absurd hc pY
  .cases hc
 .split at hc
  .exact absurd hc kW
  .cases hc
 .rename_i x ho
  split at hc
  .cases hc
  .cases hc
  .obtain⟨as,g,b⟩:=DZ hc
   cases b
   exact⟨bT ho hr g,rfl,rfl,rfl⟩
 .rename_i op t x y k ho
  split at hc
  .rename_i q hq
   obtain⟨as,g,b⟩:=DZ hc
   cases b
   exact⟨bo hq (by simp[execOp,ho]) hr g,rfl,rfl,rfl⟩
  .cases hc
 .rename_i op t x ho
  obtain⟨as,g,b⟩:=DZ hc
  cases b
  exact⟨ma (by simp[execOp,ho]) hr g,rfl,rfl,rfl⟩
 .rename_i src aIU x ho
  split at hc
  .cases hq:E5 C U x with
   |none=>rw[hq] at hc;cases hc
   |some q=>rw[hq] at hc;cases hc
  .split at hc
   .cases hq:E5 C U x with
    |none=>rw[hq] at hc;cases hc
    |some q=>rw[hq] at hc;cases hc
   .obtain⟨as,g,b⟩:=DZ hc
    cases b;cases HR
  .rename_i q Na Tb hq
   obtain⟨as,g,b⟩:=DZ hc
   cases b
   refine⟨?_,rfl,rfl,rfl⟩
   unfold Wu at hq
   split at hq
   .rename_i hs hd
    cases hq
    exact pX hs hd (by simp[execOp,ho]) hr g
   .rename_i hs hd
    cases hq
    exact bq hs hd (by simp[execOp,ho]) hr g
   .cases hq
   .split at hq
    .cases hq;cases HR
    .cases hq
   .split at hq
    .cases hq;cases HR
    .cases hq
   .cases hq
  .cases hc
 .split at hc
  .cases hc
  .cases hc
 .cases hc
 .split at hc
  .split at hc<;>cases hc
  .cases hc
 .split at hc
  .split at hc<;>cases hc
  .cases hc
 .split at hc
  .split at hc<;>cases hc
  .cases hc
 .split at hc
  .split at hc<;>cases hc
  .cases hc
 .split at hc
  .split at hc
   .exact absurd hc Lf
   .cases hc
  .cases hc
 .split at hc
  .cases hc
  .exact absurd hc Lf
  .cases hc
 .split at hc
  .split at hc<;>first|exact absurd hc Lf|cases hc
  .cases hc
 .split at hc
  .exact absurd hc Lf
  .cases hc
 .rename_i t x lo hi ho
  split at hc
  .rename_i ht
   obtain⟨as,g,b⟩:=DZ hc
   cases b
   exact⟨Ua (isStr:=true) ht (by simp[execOp,ho]) hr g,rfl,rfl,rfl⟩
  .rename_i e ht
   split at hc
   .rename_i n hn
    split at hc
    .exact absurd hc Lf
    .obtain⟨as,g,b⟩:=DZ hc
     cases b
     exact⟨Ua (isStr:=false) ⟨e,ht,hn⟩ (by simp[execOp,ho]) hr g,rfl,rfl,rfl⟩
   .cases hc
  .cases hc
 .rename_i t x f ho
  split at hc
  .rename_i off sh d hf hd
   split at hc
   .cases hc
   .cases hc
   .obtain⟨as,g,b⟩:=DZ hc
    cases b
    exact⟨UT hf (by simp[execOp,ho]) hr g,hd.symm,rfl,rfl⟩
  .cases hc
 .rename_i t x f ho
  split at hc
  .rename_i off sh hf
   obtain⟨as,g,b⟩:=DZ hc
   cases b
   exact⟨kT hf (by simp[execOp,ho]) hr g,rfl,rfl,rfl⟩
  .cases hc
 .rename_i t x i ho
  split at hc
  .rename_i e ht
   split at hc
   .rename_i n hn
    obtain⟨as,g,b⟩:=DZ hc
    cases b
    exact⟨WI ht hn (by simp[execOp,ho]) hr g,rfl,rfl,rfl⟩
   .cases hc
  .rename_i len e ht
   split at hc
   .rename_i n hn
    split at hc
    .cases hc
    .obtain⟨as,g,b⟩:=DZ hc
     cases b
     exact⟨Y2 ht hn (by simp[execOp,ho]) hr g,rfl,rfl,rfl⟩
   .cases hc
  .cases hc
 .rename_i t x i ho
  split at hc
  .rename_i ht
   obtain⟨as,g,b⟩:=DZ hc
   cases b
   exact⟨UU ht (by simp[execOp,ho]) hr g,rfl,rfl,rfl⟩
  .rename_i len e ht
   split at hc
   .rename_i n sh hn oX
    obtain⟨as,g,b⟩:=DZ hc
    cases b
    exact⟨UW ht hn oX (by simp[execOp,ho]) hr g,rfl,rfl,rfl⟩
   .cases hc
  .cases hc
 .rename_i x i ho
  obtain⟨as,g,b⟩:=DZ hc
  cases b
  exact⟨br (by simp[execOp,ho]) hr g,rfl,rfl,rfl⟩
 .rename_i c ho
  unfold Q6 at hc
  split at hc
  .rename_i hcl
   split at hc
   .rename_i t h0
    split at hc
    .rename_i ht
     obtain⟨as,g,b⟩:=DZ hc
     cases b
     exact⟨ZJ (isStr:=true) ho hcl h0 ht hr g,rfl,rfl,rfl⟩
    .rename_i e ht
     obtain⟨as,g,b⟩:=DZ hc
     cases b
     exact⟨ZJ (isStr:=false) ho hcl h0 ⟨e,ht⟩ hr g,rfl,rfl,rfl⟩
    .cases hc
   .cases hc
  .split at hc
   .split at hc
    all_goals first
     |(cases hc;done)
     | (split at hc
        . split at hc
          . split at hc
            . split at hc
              . split at hc
                . cases hc
                . split at hc
                  . cases hc
                  . cases hc; cases HR
              . split at hc <;> cases hc
            . cases hc
          . cases hc
        . cases hc)
   .cases hc
  .split at hc
   .split at hc
    all_goals first
     |(cases hc;done)
     | (split at hc
        . exact absurd hc Lf
        . cases hc)
   .cases hc
  .split at hc
   .split at hc
    .split at hc
     .exact absurd hc Lf
     .cases hc
    .cases hc
   .cases hc
  .rename_i hcl
   split at hc
   .obtain⟨as,g,b⟩:=DZ hc
    cases b
    exact⟨R5 (isMax:=true) ho hcl hr g,rfl,rfl,rfl⟩
   .cases hc
  .rename_i hcl
   split at hc
   .obtain⟨as,g,b⟩:=DZ hc
    cases b
    exact⟨R5 (isMax:=false) ho hcl hr g,rfl,rfl,rfl⟩
   .cases hc
  .split at hc
   .split at hc
    .split at hc
     .exact absurd hc Lf
     .cases hc
    .cases hc
   split at hc
   .cases hq:Bx C U c.args.toList with
    |none=>rw[hq] at hc;cases hc
    |some q=>
     rw[hq] at hc
     simp only[B9,Bz] at hc
     split at hc<;>cases hc
   .cases hc
  .split at hc<;>cases hc
  .cases hc
 .cases hc
end
end Go.Am
end
