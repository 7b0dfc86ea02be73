/- Lemmas -/
import Derived.Test.YtjjnhgoknielgaaGreatDoorW2
import Derived.Laws.Slices
set_option linter.all false
section
namespace Go.Am
open Go
section
variable{P:Program}{γ:Gh}{w:World}
def Tv{a:Bool}{v:Value}(h:BQ γ (.bool a) v):v= .bool a:=h
def EO{k:IntKind}{a:Int}{v:Value}(h:BQ γ (.int k a) v):v= .int k a:=h
def Pq{a:Ah}{v:Value}(h:BQ γ (.str a) v):v= .string ⟨⟨a⟩⟩:=h
def Bc.aAb{us:List Value}(h:Bc γ [] us):us=[]:=h
def Bc.Nc{a:Ab}{l:List Ab}{us:List Value}(h:Bc γ (a::l) us):∃u DS,us=u::DS/\BQ γ a u/\Bc γ l DS:=h
def Bc.one{a:Ab}{us:List Value}(h:Bc γ [a] us):∃u,us=[u]/\BQ γ a u:=by obtain⟨u,DS,rfl,h1,h2⟩:=h;rw[h2.aAb];exact⟨u,rfl,h1⟩
def Bc.Kj{a b:Ab}{us:List Value}(h:Bc γ [a,b] us):∃u v,us=[u,v]/\BQ γ a u/\BQ γ b v:=by obtain⟨u,DS,rfl,h1,h2⟩:=h;obtain⟨v,rfl,h3⟩:=h2.one;exact⟨u,v,rfl,h1,h3⟩
def Bc.Vz{a b c:Ab}{us:List Value}(h:Bc γ [a,b,c] us):∃u v x,us=[u,v,x]/\BQ γ a u/\BQ γ b v/\BQ γ c x:=by obtain⟨u,DS,rfl,h1,h2⟩:=h;obtain⟨v,x,rfl,h3,d⟩:=h2.Kj;exact⟨u,v,x,rfl,h1,h3,d⟩
def Value.KO:Value->Bool
 | .bool _| .pointer _| .slice _ _ _| .func _ _ _| .nilFunc| .map _=>true
 |_=>false
def UO{op:BinOp}{neg:Bool}(NV:(op= .eql/\neg=false)\/(op= .neq/\neg=true))(t:TypeId)(c b:Operand){x y:Value}(hx:Value.KO x=true)(hy:Value.KO y=true){e:Bool}
  (he:(Op.equal t x y).run P w= .ok e w):(do eqGuard op t c b x y;binOp op t x y:Sem Value).run P w= .ok (.bool (e != neg)) w:=by
 have hg:eqGuard op t c b x y=pure ():=by rcases NV with⟨rfl,_⟩|⟨rfl,_⟩<;>cases x<;>simp[Value.KO] at hx<;>rfl
 rw[hg];rcases NV with⟨rfl,rfl⟩|⟨rfl,rfl⟩
 .have hb:binOp .eql t x y=(do pure (.bool (<-Op.equal t x y))):=by cases x<;>simp[Value.KO] at hx<;>cases y<;>simp[Value.KO] at hy<;>rfl
  simp[hb,he]
 .have hb:binOp .neq t x y=(do pure (.bool (!(<-Op.equal t x y)))):=by cases x<;>simp[Value.KO] at hx<;>cases y<;>simp[Value.KO] at hy<;>rfl
  simp[hb,he]
def nK{op:BinOp}{neg:Bool}(NV:(op= .eql/\neg=false)\/(op= .neq/\neg=true))(t:TypeId)(d c:Operand)(ht:P.underlying t=some .bool)(a b:Bool):
  (do eqGuard op t d c (.bool a) (.bool b);binOp op t (.bool a) (.bool b):Sem Value).run P w= .ok (.bool ((a==b) != neg)) w:=
 UO NV t d c rfl rfl (run_equalIn_bool' w 9999 t a b ht)
def Wl{d:Nat}{t e:TypeId}(ht:P.underlying t=some (.pointer e))(hz:∃n,B1 P e=some (n+1)){a b:Ab}{x y:Value}(hx:BQ γ a x)(hy:BQ γ b y){r:Bool}(h:yH a b=some r):
  (Op.equalIn (d+1) t x y).run P w= .ok r w/\Value.KO x=true/\Value.KO y=true:=by
 obtain⟨n,hn⟩:=hz;unfold yH at h;split at h
 .rename_i q;cases h;rw[show x= .pointer none from hx];have:∃p,y= .pointer p/\p.isNone=q.isNone:=by
   cases q with
   |none=>exact⟨none,hy,rfl⟩
   |some p=>obtain⟨i,o⟩:=p;obtain⟨b,_,rfl⟩:=hy;exact⟨_,rfl,rfl⟩
  obtain⟨p,rfl,hp⟩:=this;exact⟨by simp[Op.equalIn,run_underlying ht,hp],rfl,rfl⟩
 .rename_i p;cases h;obtain⟨i,o⟩:=p;obtain⟨b,_,rfl⟩:=hx;rw[show y= .pointer none from hy];exact⟨by simp[Op.equalIn,run_underlying ht],rfl,rfl⟩
 .rename_i p q;split at h;.rename_i he;cases h;subst he;obtain⟨i,o⟩:=p;obtain⟨b,hb,rfl⟩:=hx;obtain⟨b',Su,rfl⟩:=hy;rw[hb] at Su;cases Su;exact⟨by simp[Op.equalIn,run_underlying ht,DW hn,sameAddr],rfl,rfl⟩
  .cases h
 .cases h;rw[show x= .pointer none from hx];obtain⟨b,o,rfl,_⟩:=hy;exact⟨by simp[Op.equalIn,run_underlying ht],rfl,rfl⟩
 .cases h;rw[show y= .pointer none from hy];obtain⟨b,o,rfl,_⟩:=hx;exact⟨by simp[Op.equalIn,run_underlying ht],rfl,rfl⟩
 .cases h
def E4{d:Nat}{t e:TypeId}(ht:P.underlying t=some (.slice e)){p q:Option Addr}{n c m k:Nat}(h:p=none\/q=none):
  (Op.equalIn (d+1) t (.slice p n c) (.slice q m k)).run P w= .ok (p.isNone&&q.isNone) w:=by
 cases p<;>cases q<;>simp at h<;>simp[Op.equalIn,run_underlying ht]
def Nd{d:Nat}{t:TypeId}{a b:Array TypeId}{c:Bool}(ht:P.underlying t=some (.func a b c)){f:Fn}{x y:Array Value}:
  (Op.equalIn (d+1) t .nilFunc .nilFunc).run P w= .ok true w/\(Op.equalIn (d+1) t .nilFunc (.func f x y)).run P w= .ok false w/\(Op.equalIn (d+1) t (.func f x y) .nilFunc).run P w= .ok false w:=by
 refine⟨?_,?_,?_⟩<;>simp[Op.equalIn,run_underlying ht]
def MD{d:Nat}{t k e:TypeId}(ht:P.underlying t=some (.map k e)){p q:Option Nat}(h:p=none\/q=none):
  (Op.equalIn (d+1) t (.map p) (.map q)).run P w= .ok (p.isNone&&q.isNone) w:=by
 cases p<;>cases q<;>simp at h<;>simp[Op.equalIn,run_underlying ht]
def Wm{d:Nat}{t:TypeId}{k:NK}(ht:match k with| .sl=>∃e,P.underlying t=some (.slice e)| .fn=>∃a b c,P.underlying t=some (.func a b c)| .mp=>∃a b,P.underlying t=some (.map a b))
  {a b:Ab} {x y:Value} (hx:BQ γ a x) (hy:BQ γ b y) {r:Bool} (h:yI k a b=some r):
  (Op.equalIn (d+1) t x y).run P w= .ok r w/\Value.KO x=true/\Value.KO y=true:=by
 unfold yI at h;split at h;case h_1=>obtain⟨e,ht⟩:=ht;cases h;rw[show x= .slice none 0 0 from hx,show y= .slice none 0 0 from hy];exact⟨E4 ht (.inl rfl),rfl,rfl⟩
 case h_2=>obtain⟨e,ht⟩:=ht;cases h;rw[show x= .slice none 0 0 from hx];obtain⟨_,_,rfl,_⟩:=hy;exact⟨E4 ht (.inl rfl),rfl,rfl⟩
 case h_3=>obtain⟨e,ht⟩:=ht;cases h;rw[show y= .slice none 0 0 from hy];obtain⟨_,_,rfl,_⟩:=hx;exact⟨E4 ht (.inr rfl),rfl,rfl⟩
 case h_4=>obtain⟨e,ht⟩:=ht;cases h;rw[show x= .slice none 0 0 from hx];obtain⟨_,rfl⟩:=hy;exact⟨E4 ht (.inl rfl),rfl,rfl⟩
 case h_5=>obtain⟨e,ht⟩:=ht;cases h;rw[show y= .slice none 0 0 from hy];obtain⟨_,rfl⟩:=hx;exact⟨E4 ht (.inr rfl),rfl,rfl⟩
 case h_6=>obtain⟨e,ht⟩:=ht;cases h;rw[show x= .slice none 0 0 from hx];obtain⟨_,_,_,rfl,_⟩:=hy;exact⟨E4 ht (.inl rfl),rfl,rfl⟩
 case h_7=>obtain⟨e,ht⟩:=ht;cases h;rw[show y= .slice none 0 0 from hy];obtain⟨_,_,_,rfl,_⟩:=hx;exact⟨E4 ht (.inr rfl),rfl,rfl⟩
 case h_8=>obtain⟨_,_,_,ht⟩:=ht;cases h;rw[show x= .nilFunc from hx,show y= .nilFunc from hy];exact⟨(Nd ht (f:= .func 0) (x:=#[]) (y:=#[])).1,rfl,rfl⟩
 case h_9=>obtain⟨_,_,_,ht⟩:=ht;cases h;rw[show x= .nilFunc from hx];obtain⟨_,_,rfl,_⟩:=hy;exact⟨(Nd ht).2.1,rfl,rfl⟩
 case h_10=>obtain⟨_,_,_,ht⟩:=ht;cases h;rw[show y= .nilFunc from hy];obtain⟨_,_,rfl,_⟩:=hx;exact⟨(Nd ht).2.2,rfl,rfl⟩
 case h_11=>
  rename_i q;obtain⟨_,_,ht⟩:=ht;cases h;rw[show x= .map none from hx];cases q with
  |none=>rw[show y= .map none from hy];exact⟨MD ht (.inl rfl),rfl,rfl⟩
  |some id=>obtain⟨b,_,rfl⟩:=hy;exact⟨MD ht (.inl rfl),rfl,rfl⟩
 case h_12=>obtain⟨_,_,ht⟩:=ht;cases h;rw[show y= .map none from hy];obtain⟨b,_,rfl⟩:=hx;exact⟨MD ht (.inr rfl),rfl,rfl⟩
 .cases h
def pj{op:BinOp}{args:List Ab}{u:Ab}(h:AE (.int op) args=some u):∃k a l b,args=[.int k a,.int l b]/\yG op k a l b=some u:=by
 simp only[AE] at h;split at h;.exact⟨_,_,_,_,rfl,h⟩
 .cases h
def pk{op:BinOp}{args:List Ab}{u:Ab}(h:AE (.str op) args=some u):∃a b,args=[.str a,.str b]/\mZ op a b=some u:=by
 simp only[AE] at h;split at h;.exact⟨_,_,rfl,h⟩
 .cases h
def nL{op:BinOp}{t:TypeId}{p:Z6}(hp:Rr P op t=some p)(f c:Operand){args:List Ab}{x y:Value}(ha:Bc γ args [x,y]){u:Ab}(h:AE p args=some u):
  ∃v,(do eqGuard op t f c x y;binOp op t x y:Sem Value).run P w= .ok v w/\BQ γ u v:=by
 unfold Rr at hp;split at hp;.cases hp;obtain⟨k,a,l,b,rfl,h⟩:=pj h;obtain⟨_,_,e,hx,hy⟩:=ha.Kj;cases e;rw[EO hx,EO hy];exact nF t f c h
 .cases hp;obtain⟨a,b,rfl,h⟩:=pk h;obtain⟨_,_,e,hx,hy⟩:=ha.Kj;cases e;rw[Pq hx,Pq hy];exact nG t f c h
 .rename_i d h1 h2 hu;obtain⟨neg,NV,g⟩:∃neg,((op= .eql/\neg=false)\/(op= .neq/\neg=true))/\UI P t neg d=some p:=by cases op<;>first|cases hp;done|exact⟨false,.inl ⟨rfl,rfl⟩,hp⟩|exact⟨true,.inr ⟨rfl,rfl⟩,hp⟩
  clear h1 h2 hp;have hp:=g;clear g;unfold UI at hp;split at hp
  .cases hp;simp only[AE] at h;split at h;.obtain⟨_,_,e,hx,hy⟩:=ha.Kj;cases e;cases h;rw[Tv hx,Tv hy];exact⟨_,nK NV t f c hu _ _,rfl⟩
   .cases h
  .split at hp
   .rename_i hg;cases hk:Qu P 20 t with
    |none=>rw[hk] at hp;cases hp
    |some ks=>
     rw[hk] at hp;cases hp;simp only[AE] at h;split at h;.obtain⟨_,_,e,hx,hy⟩:=ha.Kj;cases e;exact nJ NV hg hk ⟨_,hu⟩ hx hy h
     .cases h
   .cases hp
  .split at hp;.cases hp
   .rename_i e hz;cases hp;simp only[AE] at h;split at h
    .rename_i a b;obtain⟨_,_,e,hx,hy⟩:=ha.Kj;cases e;cases hq:yH a b with
     |none=>rw[hq] at h;cases h
     |some r=>rw[hq] at h;cases h;obtain⟨m,j,i⟩:=Wl (w:=w) (d:=9999) hu (by cases aE:B1 P e with|none=>rw[aE] at hz;exact absurd rfl hz|some n=>cases n with|zero=>rw[aE] at hz;exact absurd rfl hz|succ n=>exact⟨n,rfl⟩) hx hy hq;exact⟨_,UO NV t f c j i m,rfl⟩
    .cases h
  all_goals first
   |cases hp;done
   | (cases hp
      simp only [AE] at h
      split at h
      . rename_i a b
        obtain ⟨_, _, e, hx, hy⟩ := ha.Kj
        cases e
        cases hq : yI _ a b with
        | none => rw [hq] at h; cases h
        | some r =>
          rw [hq] at h; cases h
          obtain ⟨m, j, i⟩ := Wm (w := w) (P := P) (t := t) (d := 9999) (by first | exact ⟨_, hu⟩ | exact ⟨_, _, hu⟩ | exact ⟨_, _, _, hu⟩) hx hy hq
          exact ⟨_, UO NV t f c j i m, rfl⟩
      . cases h)
 .cases hp
end
end Go.Am
end
section
namespace Go.Am
open Go
section
variable{P:Program}{γ:Gh}{w:World}
def aDX{op:UnOp}{a u:Ab}{x:Value}(hx:BQ γ a x)(h:aDO op a=some u):∃v,(Op.unary op x).run P w= .ok v w/\BQ γ u v:=by
 unfold aDO at h;split at h;.cases h;rw[Tv hx];exact⟨_,rfl,rfl⟩
 .cases h;rw[EO hx];exact⟨_,rfl,rfl⟩
 .rename_i k n;rw[EO hx];unfold aCy at h;cases hs:Rp (Op.unary .xor (.int k n)) with
  |none=>rw[hs] at h;cases h
  |some v=>
   rw[hs] at h;have b:=XV hs;simp only[Cx] at h;split at h;.cases h;exact⟨_,by rw[b];rfl,rfl⟩
   .cases h
 .cases h
def fV{src dst:TypeId}{k l k':IntKind}{n:Int}(hs:P.underlying src=some (.int l))(hd:P.underlying dst=some (.int k)):(convert src dst (.int k' n)).run P w= .ok (.int k (k.wrap n)) w:=by simp[convert,run_underlying hs,run_underlying hd,Conv.intToInt]
def fW{src dst:TypeId}{l k':IntKind}{n:Int}(hs:P.underlying src=some (.int l))(hd:P.underlying dst=some .string):(convert src dst (.int k' n)).run P w= .ok (.string (Utf8.encode n)) w:=by simp[convert,run_underlying hs,run_underlying hd,Conv.intToString]
def pq{t:TypeId}{f off:Nat}{sh:Option Nat}(hf:Jc P t f=some (off,sh)){cs:List Ab}{x:Value}(hx:BQ γ (.agg cs) x){u:Ab}(h:FN cs off sh=some u):∃v,(Instr.field t x f).run P w= .ok v w/\BQ γ u v:=by
 unfold Jc at hf;split at hf
 .rename_i fs hu;split at hf
  .rename_i fd yX;split at hf;.rename_i n b h1 h2;cases hf;obtain⟨us,rfl,hr,h1c⟩:=hx;obtain⟨v,p,q⟩:=nH (w:=w) h2 hr h1c h;exact⟨v,by simp[Instr.field,run_underlying hu,yX,asAgg,p],q⟩
   .cases hf
  .cases hf
 .cases hf
def Sx{i:Int}{len j:Nat}(h:M7 i len=some j):0<=i/\i<len/\i.toNat=j:=by
 unfold M7 at h;split at h;.rename_i hc;cases h;exact⟨hc.1,hc.2,rfl⟩
 .cases h
def aF{t e:TypeId}{len n:Nat}{sh:Option Nat}(ht:P.underlying t=some (.array len e))(hn:B1 P e=some n)(sD:FL P e=some sh){cs:List Ab}{x:Value}(hx:BQ γ (.agg cs) x){k:IntKind}{i:Int}{j:Nat}
  (hi:M7 i len=some j) {u:Ab} (h:FN cs (j*n) sh=some u):∃v,(Instr.index t x (.int k i)).run P w= .ok v w/\BQ γ u v:=by
 obtain⟨us,rfl,hr,h1c⟩:=hx;obtain⟨d,c,b⟩:=Sx hi;obtain⟨v,p,q⟩:=nH (w:=w) sD hr h1c h;exact⟨v,by simp[Instr.index,asIntOf,run_underlying ht,d,c,DW hn,b,p],q⟩
def aG{t:TypeId}(ht:P.underlying t=some .string){s:Ah}{k:IntKind}{i:Int}{b:UInt8}(h0:0<=i)(h:s[i.toNat]?=some b):
  (Instr.index t (.string ⟨⟨s⟩⟩) (.int k i)).run P w= .ok (.int .u8 b.toNat) w:=by
 obtain⟨hlt,hb⟩:=Aj.1 h;have e:(⟨⟨s⟩⟩:ByteArray)[i.toNat]?=some b:=by rw[ByteArray.getElem?_lt' _ _ (show i.toNat<(⟨⟨s⟩⟩:ByteArray).size from hlt),<-hb];rfl
 simp[Instr.index,asIntOf,run_underlying ht,h0,e]
def yY{p u:Ab}{x:Value}{n:Nat}(hx:BQ γ p x)(h:XE p n=some u):∃a,x= .pointer (some a)/\BQ γ u (.pointer (some (a.add n))):=by
 unfold XE at h;split at h;.rename_i cs;cases h;obtain⟨b,o,rfl,hm⟩:=hx;refine⟨_,rfl,b,o+n,?_,hm.drop n⟩;unfold Addr.add;split<;>simp_all
 .rename_i id o;cases h;obtain⟨b,hb,rfl⟩:=hx;refine⟨_,rfl,b,hb,?_⟩;unfold Addr.add;split<;>simp_all
 .cases h
def nM{t:TypeId}{f off:Nat}{sh:Option Nat}(hf:Jc P t f=some (off,sh)){p u:Ab}{x:Value}(hx:BQ γ p x)(h:XE p off=some u):∃v,(Instr.fieldAt t x f).run P w= .ok v w/\BQ γ u v:=by
 obtain⟨a,rfl,hu⟩:=yY hx h;refine⟨_,?_,hu⟩;unfold Jc at hf;split at hf
 .rename_i fs ph;split at hf
  .rename_i fd yX;split at hf;.rename_i n b h1 h2;cases hf;simp[Instr.fieldAt,run_underlying ph,yX,Instr.sureAddr,fieldPlace,DW h1]
   .cases hf
  .cases hf
 .cases hf
def sY{t e:TypeId}{n:Nat}(ht:P.underlying t=some (.slice e))(hn:B1 P e=some n){s u:Ab}{x:Value}(hx:BQ γ s x){k:IntKind}{i:Int}(h:elemOf n s i=some u):
  ∃v,(Instr.indexAt t x (.int k i)).run P w= .ok v w/\BQ γ u v:=by
 have J0:P.underlying t=some (.slice (P.elem t)):=by simp[Program.elem,ht]
 have he:P.elem t=e:=by simp[Program.elem,ht]
 unfold elemOf at h;split at h
 .rename_i z Ay;split at h
  .rename_i hz;subst hz;split at h
   .rename_i h0;cases hr:Ay[i.toNat]? with
    |none=>rw[hr] at h;cases h
    |some row=>
     rw[hr] at h;cases h;obtain⟨d,cap,rfl,hc,hsp,hm⟩:=hx;obtain⟨hl,c⟩:=hm.get hr;have hlt:i<Ay.length:=by have:=(Aj.1 hr).1;omega
     have sZ:=Pl hsp hc Ac;generalize d.block=b at*;generalize d.off=o at*;subst sZ;refine⟨.pointer (some ((⟨b,o,none⟩:Addr).add (i.toNat*z))),by rw[run_indexAt_slice w t _ _ _ _ _ J0,Ae ⟨h0,hlt⟩,he,DW hn];rfl,b,o+i.toNat*z,?_,c⟩;unfold Addr.add;split<;>simp_all
   .cases h
  .cases h
 .rename_i id off len z;split at h
  .rename_i hz;subst hz;cases hj:M7 i len with
   |none=>rw[hj] at h;cases h
   |some j=>rw[hj] at h;cases h;obtain⟨l,g,f⟩:=Sx hj;subst f;obtain⟨b,cap,hb,rfl,hc,hz⟩:=hx;refine⟨.pointer (some ((⟨b,off,none⟩:Addr).add (i.toNat*z))),by rw[run_indexAt_slice w t _ _ _ _ _ J0,Ae ⟨l,g⟩,he,DW hn];rfl,b,hb,?_⟩;unfold Addr.add;split<;>simp_all
  .cases h
 .cases h
def pt{t e:TypeId}{len n:Nat}(ht:P.underlying t=some (.array len e))(hn:B1 P e=some n){p u:Ab}{x:Value}(hx:BQ γ p x){k:IntKind}{i:Int}{j:Nat}(hj:M7 i len=some j)(h:XE p (j*n)=some u):
  ∃v,(Instr.indexAt t x (.int k i)).run P w= .ok v w/\BQ γ u v:=by
 have J0:P.underlying t=some (.array (P.arrayLen t) (P.elem t)):=by simp[Program.elem,Program.arrayLen,ht]
 have he:P.elem t=e:=by simp[Program.elem,ht]
 have hl:P.arrayLen t=len:=by simp[Program.arrayLen,ht]
 obtain⟨a,rfl,hu⟩:=yY hx h;obtain⟨d,c,b⟩:=Sx hj;subst b;exact⟨_,by rw[run_indexAt_array w t _ _ _ J0,hl,Ae ⟨d,c⟩,he,DW hn];rfl,hu⟩
def aAc{t ty:TypeId}{isStr:Bool}(ht:if isStr=true then P.underlying t=some .string else∃e,P.underlying t=some (.slice e)){ts:Array TypeId}(fX:ts[0]?=some t){s u:Ab}{x:Value}(hx:BQ γ s x)(h:lenOf isStr s=some u):
  ∃v,(Builtin.len_ ts ty #[x]).run P w= .ok v w/\BQ γ u v:=by
 cases isStr with
 |true=>
  replace ht:P.underlying t=some .string:=ht;unfold lenOf at h;split at h<;>first|cases h;done|skip
  simp only[BN] at h;cases h;rw[Pq hx];refine⟨_,by simp[Builtin.len_,fX,run_underlying ht];rfl,rfl⟩
 |false=>
  obtain⟨e,ht⟩:∃e,P.underlying t=some (.slice e):=ht;unfold lenOf at h;split at h;.cases h;obtain⟨c,cap,rfl,_⟩:=hx;exact⟨_,by simp[Builtin.len_,fX,run_underlying ht];rfl,rfl⟩
  .cases h;obtain⟨b,cap,_,rfl,_⟩:=hx;exact⟨_,by simp[Builtin.len_,fX,run_underlying ht];rfl,rfl⟩
  .cases h;rw[show x= .slice none 0 0 from hx];exact⟨_,by simp[Builtin.len_,fX,run_underlying ht];rfl,rfl⟩
  .cases h;obtain⟨b,rfl⟩:=hx;exact⟨_,by simp[Builtin.len_,fX,run_underlying ht];rfl,rfl⟩
  .cases h
  .cases h
def aAd{vs:List Ab}{x:Value}(hx:BQ γ (.tuple vs) x){i:Nat}{u:Ab}(h:vs[i]?=some u):∃v,(Instr.extract x i).run P w= .ok v w/\BQ γ u v:=by
 obtain⟨us,rfl,hr⟩:=hx;obtain⟨v,hv,q⟩:=hr.get h;exact⟨v,by
  have:us[i]?=some v:=by simpa using hv
  simp[Instr.extract,this],q⟩
end
end Go.Am
end
section
namespace Go.Am
open Go
section
variable{P:Program}{γ:Gh}{w:World}
def Pr{n:Int}{top j:Nat}(h:EU n top=some j):0<=n/\n<=top/\n.toNat=j:=by
 unfold EU at h;split at h;.rename_i hc;cases h;exact⟨hc.1,hc.2,rfl⟩
 .cases h
def Lv{lo hi:Option Value}{as:List Ab}{len cap l h:Nat}{isSlice:Bool}(hb:D1 lo.isSome hi.isSome len as=some (l,h))(hr:Bc γ as (lo.toList++hi.toList))(hc:len<=cap):
  (Instr.sliceBounds isSlice len cap lo hi none).run P w= .ok (l,h,cap) w/\l<=h/\h<=len:=by
 cases lo<;>cases hi<;>simp only[Option.isSome,D1] at hb
 .split at hb;.cases hb;exact⟨by simp[Instr.sliceBounds],Bn _,Ad _⟩
  .cases hb
 .rename_i hv;split at hb
  .rename_i k h';cases b:EU h' len with
   |none=>rw[b] at hb;cases hb
   |some j=>rw[b] at hb;cases hb;obtain⟨f,g,d⟩:=Pr b;obtain⟨_,e,hx⟩:=hr.one;cases e;rw[EO hx];refine⟨?_,Bn _,Ac⟩;have:h'<=(cap:Int):=Ac;simp[Instr.sliceBounds,run_sliceBound,f,this,d]
  .cases hb
 .rename_i p;split at hb
  .rename_i k l';cases b:EU l' len with
   |none=>rw[b] at hb;cases hb
   |some j=>rw[b] at hb;cases hb;obtain⟨f,g,d⟩:=Pr b;obtain⟨_,e,hx⟩:=hr.one;cases e;rw[EO hx];refine⟨?_,Ac,Ad _⟩;simp[Instr.sliceBounds,run_sliceBound,f,g,d]
  .cases hb
 .rename_i p hv;split at hb
  .rename_i k l' k' h';cases b:EU h' len with
   |none=>rw[b] at hb;cases hb
   |some j=>
    rw[b] at hb;simp only[Cx] at hb;cases c:EU l' j with
    |none=>rw[c] at hb;cases hb
    |some i=>rw[c] at hb;cases hb;obtain⟨f,g,d⟩:=Pr b;obtain⟨o,n,m⟩:=Pr c;obtain⟨_,_,e,hx,hy⟩:=hr.Kj;cases e;rw[EO hx,EO hy];refine⟨?_,Ac,Ac⟩;have:h'<=(cap:Int):=Ac;simp[Instr.sliceBounds,run_sliceBound,f,this,o,d,m,n]
  .cases hb
def Fj.slice{Ay:List (List Ab)}{z b o:Nat}(h:Fj γ Ay z b o)(l k:Nat):Fj γ ((Ay.take k).drop l) z b (o+l*z):=by
 refine Fj.HC λi r hi=>?_;rw[CE,CA] at hi;split at hi;.obtain⟨p,q⟩:=h.get hi;exact⟨p,by rw[show o+l*z+i*z=o+(l+i)*z by rw[BK];omega];exact q⟩
 .cases hi
def aAe{t:TypeId}{isStr:Bool}{size:Nat}(ht:if isStr=true then P.underlying t=some .string else∃e,P.underlying t=some (.slice e)/\B1 P e=some size){s u:Ab}{x:Value}(hx:BQ γ s x){as:List Ab}{lo hi:Option Value}
  (hr:Bc γ as (lo.toList++hi.toList)) (h:JC size isStr lo.isSome hi.isSome s as=some u):
  ∃v,(Instr.sliceAt t x lo hi none).run P w= .ok v w/\BQ γ u v:=by
 unfold JC at h;split at h
 .split at h
  .rename_i s RR;subst RR;replace ht:P.underlying t=some .string:=ht;cases hb:D1 lo.isSome hi.isSome s.length as with
   |none=>rw[hb] at h;cases h
   |some f=>
    obtain⟨l,k⟩:=f;rw[hb] at h;cases h;obtain⟨c,i,g⟩:=Lv (P:=P) (w:=w) (isSlice:=false) hb hr (Ad _);rw[Pq hx,run_sliceAt_string w t _ _ _ _ ht];refine⟨.string ((⟨⟨s⟩⟩:ByteArray).extract l k),?_,?_⟩;.have e:(⟨⟨s⟩⟩:ByteArray).size=s.length:=rfl;simp only[Instr.slice,Sem.run_bind,run_underlying ht,Result.andThen_ok];simp only[e,c,Option.isSome,B5,DK,Sem.run_bind,Sem.run_pure,Result.andThen_ok]
    .show Value.string _=Value.string _;congr 1
     apply ByteArray.ext;apply Ia;simp[ByteArray.data_extract,Ir,List.drop_take]
  .cases h
 .rename_i z Ay;split at h
  .rename_i hc;obtain⟨rfl,rfl⟩:=hc;obtain⟨e,ht,hn⟩:∃e,P.underlying t=some (.slice e)/\B1 P e=some z:=ht;have J0:P.underlying t=some (.slice (P.elem t)):=by simp[Program.elem,ht]
   have he:P.elem t=e:=by simp[Program.elem,ht]
   obtain⟨d,cap,rfl,hc,hsp,hm⟩:=hx;cases hb:D1 lo.isSome hi.isSome Ay.length as with
   |none=>rw[hb] at h;cases h
   |some f=>
    obtain⟨l,k⟩:=f;rw[hb] at h;cases h;obtain⟨c,i,g⟩:=Lv (P:=P) (w:=w) (isSlice:=true) hb hr hc;rw[run_sliceAt_slice w t _ _ _ _ J0,run_slice_any w t _ _ _ J0,c,he,Result.andThen_ok,DW hn];refine⟨_,rfl,?_⟩;show BQ γ (.sl z ((Ay.take k).drop l)) (.slice (if cap=l then some d else Option.map (λq:Addr=>q.add (l*z)) (some d)) (k-l) (cap-l));have hlen:((Ay.take k).drop l).length=k-l:=EE;by_cases hcl:cap=l;.have:(Ay.take k).drop l=[]:=C5 Ac;rw[this];simp only[hcl,BN];exact⟨d,l-l,EE,AB,.inr Ac,trivial⟩
    .rw[Aa hcl];have sZ:d=⟨d.block,d.off,none⟩:=by
      rcases hsp with hsp|hsp
      .cases d;simp_all
      .omega
     generalize d.block=b at*;generalize d.off=o at*;subst sZ;refine⟨⟨b,o+l*z,none⟩,cap-l,?_,Ac,.inl rfl,hm.slice l k⟩;rw[hlen];simp only[BW];unfold Addr.add;split<;>simp_all
  .cases h
 .rename_i id off n z;split at h
  .rename_i hc;obtain⟨rfl,rfl⟩:=hc;obtain⟨e,ht,hn⟩:∃e,P.underlying t=some (.slice e)/\B1 P e=some z:=ht;have J0:P.underlying t=some (.slice (P.elem t)):=by simp[Program.elem,ht]
   have he:P.elem t=e:=by simp[Program.elem,ht]
   obtain⟨b,cap,j,rfl,hc,hz,Lu⟩:=hx;cases hb:D1 lo.isSome hi.isSome n as with
   |none=>rw[hb] at h;cases h
   |some f=>
    obtain⟨l,k⟩:=f;rw[hb] at h;simp only[Cx] at h;split at h
    .rename_i yZ;cases h;obtain⟨c,i,g⟩:=Lv (P:=P) (w:=w) (isSlice:=true) hb hr hc;rw[run_sliceAt_slice w t _ _ _ _ J0,run_slice_any w t _ _ _ J0,c,he,Result.andThen_ok,DW hn];refine⟨_,rfl,b,cap-l,j,?_,Ac,⟨hz.1,Bw (Nat.sub_le _ _) hz.2⟩,?_⟩;.show Value.slice (if cap=l then some ⟨b,off,none⟩ else Option.map (λq:Addr=>q.add (l*z)) (some ⟨b,off,none⟩)) (k-l) (cap-l)=_;rw[Aa Ac];simp only[BW];unfold Addr.add;split<;>simp_all
     .rw[Lu,S7,<-BK,aNa Ac]
    .rename_i yZ;cases h;obtain⟨c,i,g⟩:=Lv (P:=P) (w:=w) (isSlice:=true) hb hr hc;rw[run_sliceAt_slice w t _ _ _ _ J0,run_slice_any w t _ _ _ J0,c,he,Result.andThen_ok,DW hn];have XX:k-l=0:=Ac;by_cases hcl:cap=l;.refine⟨_,rfl,⟨b,off,none⟩,cap-l,?_,AB,.inl rfl,trivial⟩;show Value.slice (if cap=l then some ⟨b,off,none⟩ else Option.map (λq:Addr=>q.add (l*z)) (some ⟨b,off,none⟩)) (k-l) (cap-l)=_;rw[Ae hcl,XX];rfl
     .refine⟨_,rfl,(Addr.mk b off none).add (l*z),cap-l,?_,AB,.inl ?_,trivial⟩;.show Value.slice (if cap=l then some ⟨b,off,none⟩ else Option.map (λq:Addr=>q.add (l*z)) (some ⟨b,off,none⟩)) (k-l) (cap-l)=_;rw[Aa hcl,XX];rfl
      .unfold Addr.add;split<;>simp_all
  .cases h
 .split at h;.cases h
  .rename_i RR;have RR:isStr=false:=by simpa using RR
   subst RR;obtain⟨e,ht,hn⟩:∃e,P.underlying t=some (.slice e)/\B1 P e=some size:=ht;have J0:P.underlying t=some (.slice (P.elem t)):=by simp[Program.elem,ht]
   have he:P.elem t=e:=by simp[Program.elem,ht]
   rw[show x= .slice none 0 0 from hx];cases hb:D1 lo.isSome hi.isSome 0 as with
   |none=>rw[hb] at h;cases h
   |some f=>obtain⟨l,k⟩:=f;rw[hb] at h;cases h;obtain⟨c,i,g⟩:=Lv (P:=P) (w:=w) (isSlice:=true) hb hr (Ad _);rw[run_sliceAt_slice w t _ _ _ _ J0,run_slice_any w t _ _ _ J0,c,he,Result.andThen_ok,DW hn];refine⟨_,rfl,?_⟩;have:l=0:=Ac;subst this;have:k=0:=Ac;subst this;rfl
 .cases h
end
end Go.Am
end
section
namespace Go.Am
open Go
section
variable{P:Program}{γ:Gh}{w:World}
def HW{a:Ab}{v:Value}(h:BQ γ a v)(hn:0<a.cells.length):Bc γ a.cells v.cells.toList/\∀u∈v.cells.toList,u.oneCell'=true:=by
 cases a with
 |agg cs=>obtain⟨us,rfl,p,q⟩:=h;exact⟨p,q⟩
 |tuple vs=>exact absurd hn (by simp[Ab.cells])
 |bool b=>rw[show v=_ from h];exact⟨⟨_,[],rfl,rfl,rfl⟩,Sy⟩
 |int k n=>rw[show v=_ from h];exact⟨⟨_,[],rfl,rfl,rfl⟩,Sy⟩
 |str s=>rw[show v=_ from h];exact⟨⟨_,[],rfl,rfl,rfl⟩,Sy⟩
 |slnil=>rw[show v=_ from h];exact⟨⟨_,[],rfl,rfl,rfl⟩,Sy⟩
 |Hi z=>have h0:=h;obtain⟨b,rfl⟩:=h;exact⟨⟨_,[],rfl,h0,rfl⟩,Sy⟩
 |nilFunc=>rw[show v=_ from h];exact⟨⟨_,[],rfl,rfl,rfl⟩,Sy⟩
 |nilIface=>rw[show v=_ from h];exact⟨⟨_,[],rfl,rfl,rfl⟩,Sy⟩
 |ptr p=>
  have h0:=h;cases p with
  |none=>rw[show v=_ from h];exact⟨⟨_,[],rfl,rfl,rfl⟩,Sy⟩
  |some p=>obtain⟨i,o⟩:=p;obtain⟨b,_,rfl⟩:=h;exact⟨⟨_,[],rfl,h0,rfl⟩,Sy⟩
 |Cd cs=>have h0:=h;obtain⟨b,o,rfl,_⟩:=h;exact⟨⟨_,[],rfl,h0,rfl⟩,Sy⟩
 |sl z Ay=>have h0:=h;obtain⟨d,cap,rfl,_⟩:=h;exact⟨⟨_,[],rfl,h0,rfl⟩,Sy⟩
 |Du id off len z=>have h0:=h;obtain⟨b,cap,_,rfl,_⟩:=h;exact⟨⟨_,[],rfl,h0,rfl⟩,Sy⟩
 |map m=>
  have h0:=h;cases m with
  |none=>rw[show v=_ from h];exact⟨⟨_,[],rfl,rfl,rfl⟩,Sy⟩
  |some id=>obtain⟨b,_,rfl⟩:=h;exact⟨⟨_,[],rfl,h0,rfl⟩,Sy⟩
 |func fn f c=>have h0:=h;obtain⟨fs,cs,rfl,_⟩:=h;exact⟨⟨_,[],rfl,h0,rfl⟩,Sy⟩
 |iface t a=>have h0:=h;obtain⟨u,rfl,_⟩:=h;exact⟨⟨_,[],rfl,h0,rfl⟩,Sy⟩
def Ps:∀(vs:List Value) (off j:Nat) (cells:Array Value),off+j+vs.length<=cells.size->
  (vs.zipIdx j).foldl (λcs (c,i)=>cs.setIfInBounds (off+i) c) cells=(cells.toList.take (off+j)++vs++cells.toList.drop (off+j+vs.length)).toArray
 |[],off,j,cells,h=>AB
 |v::vs,off,j,cells,h=>by
  simp only[yC,xb];rw[Ps vs off (j+1) _ (by simp at h⊢;omega)];simp only[AJ] at h;have hk:off+j<cells.toList.length:=EE;have e0:(cells.setIfInBounds (off+j) v).toList=cells.toList.set (off+j) v:=AB;have d:(cells.toList.set (off+j) v).take (off+j+1)=cells.toList.take (off+j)++[v]:=by rw[List.take_add_one,bW (Ad _),AI hk];rfl
  have b:(cells.toList.set (off+j) v).drop (off+j+1+vs.length)=cells.toList.drop (off+j+1+vs.length):=aNb Ac;rw[e0,(Ac:off+(j+1)=off+j+1),d,b];rw[(EE:off+j+(v::vs).length=off+j+1+vs.length)];simp
def XY{place:Nat->Option (Nat×Nat)}:∀{places:List (Nat×Nat)} {as:List Ab} {parts:List (Nat×Value)} {cs:List Ab} {us:Array Value} {Hz:List Ab},Cl cs (places.zip as)=some Hz->places.length=as.length->
  parts.map (λp=>place p.1)=places.map some->Bc γ as (parts.map (·.2))->Bc γ cs us.toList->(∀u∈us.toList,u.oneCell'=true)->
  ∃DS,Instr.fill place us parts=some DS/\Bc γ Hz DS.toList/\∀u∈DS.toList,u.oneCell'=true
 |[],as,parts,cs,us,Hz,h,hl,hp,ha,hr,h1=>by
  have:parts=[]:=by simpa using hp
  subst this;simp only[List.zip_nil_left,Cl] at h;cases h;exact⟨us,rfl,hr,h1⟩
 |(off,size)::places,[],parts,cs,us,Hz,h,hl,hp,ha,hr,h1=>by simp at hl
 |(off,size)::places,a::as,[],cs,us,Hz,h,hl,hp,ha,hr,h1=>by simp at hp
 |(off,size)::places,a::as,(i,v)::parts,cs,us,Hz,h,hl,hp,ha,hr,h1=>by
  simp only[aRx,Cl] at h;split at h
  .rename_i hc;obtain⟨o,n,m⟩:=hc;simp only[AV,Cu] at hp;obtain⟨_,_,e,hav,b⟩:=ha.Nc;simp only[AV,Cu] at e;obtain⟨l,k⟩:=e;subst l;subst k;obtain⟨c,g⟩:=HW hav Ac;have Lu:v.cells.size=size:=by have:=c.length;simp at this;omega
   have cD:us.size=cs.length:=by have:=hr.length;simpa using this
   have hf:=Ps v.cells.toList off 0 us (by simp[Lu];omega);obtain⟨DS,f,r2,d⟩:=XY (place:=place) (us:=(us.toList.take off++v.cells.toList++us.toList.drop (off+size)).toArray) h (by simpa using hl) hp.2 b
    (by simpa using((hr.take off).append c).append (hr.drop (off+size)))
    (λu hu=>by
     simp only[Ao] at hu;rcases hu with(hu|hu)|hu
     .exact h1 u (A9 hu)
     .exact g u hu
     .exact h1 u (A6 hu))
   refine⟨DS,?_,r2,d⟩;rw[Instr.fill];simp only[hp.1];rw[Aa (by simp[Lu];omega)];rw[<-f];congr 1
   have j:v.cells.toList.length=size:=by simpa using Lu
   rw[<-aRy,aNc,hf];simp[j]
  .cases h
def aH{v:Value}{a:Ab}(h:LV v=some a):Bc γ a.cells v.cells.toList/\∀u∈v.cells.toList,u.oneCell'=true:=by
 have hr:=FQ (γ:=γ) h;unfold LV at h;split at h
 .rename_i cs;cases hs:M0 cs.toList with
  |none=>rw[hs] at h;cases h
  |some as=>rw[hs] at h;cases h;exact Oi hs
 .refine HW hr ?_;unfold Qs at h;split at h<;>first|(cases h;simp[Ab.cells];done)|skip
  .split at h;.cases h;simp[Ab.cells]
   .cases h
  .cases h
def P7{t:TypeId}{fs:Array Field}(hu:P.underlying t=some (.struct fs)){place:Nat->Option (Nat×Nat)}(sE:∀(i:Nat) (f:Field) (n:Nat),fs[i]?=some f->B1 P f.type=some n->place i=some (f.offset,n)):
  ∀{parts:List (Nat×Operand)} {ps:List (Nat×Nat)},KN P t parts=some ps->parts.map (λp=>place p.1)=ps.map some
 |[],ps,h=>by cases h;rfl
 |(i,x)::rest,ps,h=>by
  simp only[KN,hu] at h;split at h
  .rename_i f hf;split at h;.rename_i n r h1 h2;cases h;simp[sE i f n hf h1,P7 hu sE h2]
   .cases h
  .cases h
def QA{t e:TypeId}{len n:Nat}(hu:P.underlying t=some (.array len e))(hn:B1 P e=some n):
  ∀{parts:List (Nat×Operand)} {ps:List (Nat×Nat)},KN P t parts=some ps->parts.map (λp=>some (p.1*n,n))=ps.map some
 |[],ps,h=>by cases h;rfl
 |(i,x)::rest,ps,h=>by
  simp only[KN,hu] at h;split at h
  .split at h;.rename_i n' r h1 h2;cases h;rw[hn] at h1;cases h1;simp[QA hu hn h2]
   .cases h
  .cases h
def VA:∀(fs:List Field),(fs.all λf=>(B1 P f.type).isSome)=true->∃places,fs.mapM (λf=>(P.info? f.type).map λi=>(f.offset,i.size))=some places/\
  ∀(i:Nat) (f:Field) (n:Nat),fs[i]?=some f->B1 P f.type=some n->places[i]?=some (f.offset,n)
 |[],_=>⟨[],rfl,AB⟩
 |f::fs,h=>by
  simp only[fN,Bg] at h;obtain⟨rest,h1,h2⟩:=VA fs h.2;cases hi:P.info? f.type with
  |none=>simp[B1,hi] at h
  |some b=>
   refine⟨(f.offset,b.size)::rest,by simp[hi,h1],λi g n hg hn=>?_⟩;cases i with
   |zero=>simp at hg;subst hg;simp[B1,hi] at hn;simp[hn]
   |succ i=>simpa using h2 i g n (by simpa using hg) hn
def pv{t:TypeId}{z:Ab}{parts:Array (Nat×Operand)}{ps:List (Nat×Nat)}{O:Operand->Value}(hz:HB P t=some z)(hp:KN P t parts.toList=some ps)(hb:WR P t=true){as:List Ab}
  (ha:Bc γ as ((parts.toList.map (·.2)).map O)) {u:Ab} (h:AE (.Dc z.cells ps) as=some u):∃v,(Instr.build t (parts.map λ(i,x)=>(i,O x))).run P w= .ok v w/\BQ γ u v:=by
 simp only[AE] at h;split at h
 .rename_i hl;cases hf:Cl z.cells (ps.zip as) with
  |none=>rw[hf] at h;cases h
  |some cs=>
   rw[hf] at h;cases h;unfold HB at hz;cases hi:P.info? t with
   |none=>rw[hi] at hz;cases hz
   |some d=>
    cases aE:d.zero with
    |none=>rw[hi] at hz;simp[aE] at hz
    |some k=>
     rw[hi] at hz;simp only[Cx,aE] at hz;obtain⟨c,z2⟩:=aH (γ:=γ) hz;have hparts:((parts.map λ(i,x)=>(i,O x)).toList.map (·.2))=(parts.toList.map (·.2)).map O:=AB;unfold WR at hb;split at hb
     .rename_i fs hu;obtain⟨places,j,g⟩:=VA fs.toList hb;obtain⟨DS,f1,f2,f3⟩:=XY (place:=λi=>places.toArray[i]?) (parts:=(parts.map λ(i,x)=>(i,O x)).toList) hf hl
       (by have:=P7 hu (place:=λi=>places.toArray[i]?) (λi f n h1 h2=>by simpa using g i f n (by simpa using h1) h2) hp;rw[<-this];simp) (by rw[hparts];exact ha) c z2
      exact⟨.agg DS,run_build w t _ _ (by unfold Program.built;simp only[hi,hu,aE,j];exact f1),DS,rfl,f2,f3⟩
     .rename_i len e hu;cases he:P.info? e with
      |none=>simp[B1,he] at hb
      |some b=>
       obtain⟨DS,f1,f2,f3⟩:=XY (place:=λi=>some (i*b.size,b.size)) (parts:=(parts.map λ(i,x)=>(i,O x)).toList) hf hl
        (by have:=QA hu (n:=b.size) (by simp[B1,he]) hp;rw[<-this];simp) (by rw[hparts];exact ha) c z2
       exact⟨.agg DS,run_build w t _ _ (by unfold Program.built;simp only[hi,hu,aE,he];exact f1),DS,rfl,f2,f3⟩
     .cases hb
 .cases h
end
end Go.Am
end
section
namespace Go.Am
open Go
def Z6.still:Z6->Bool
 | .append _ _| .Cb _| .Hi _| .s2b| .XD=>false
 |_=>true
def HX{o:yd}{dst:Option Nat}{x:Option (List Ab)}{r:E2}(h:UK o dst x=some r):∃args,x=some args/\r= .mem o args dst:=by
 unfold UK at h;split at h;.cases h;exact⟨_,rfl,rfl⟩
 .cases h
def Ma{o:yd}{dst:Option Nat}{x:Option (List Ab)}{p:Z6}{args:List Ab}{d:Option Nat}{BU:Bool}{b:Option (Nat×Ab)}:¬UK o dst x=some (.op p args d BU b):=λh=>by obtain⟨_,_,e⟩:=HX h;cases e
def Ea{p:Z6}{dst:Option Nat}{x:Option (List Ab)}{r:E2}(h:UJ p dst x=some r):∃args,x=some args/\r= .op p args dst false none:=by
 cases x with
 |none=>cases h
 |some args=>cases h;exact⟨args,rfl,rfl⟩
section
variable{C:Gw}{γ0 γ:Gh}{w0 w:World}{Z:Nat->Nat}{U:BT}{h:Ai}{a:Act}{fid:FuncId}{ops:List Oper}
def IM(P:Program)(γ:Gh)(a:Act)(o:Oper)(w:World)(p:Z6)(args:List Ab):Prop:=
 ∀u,AE p args=some u->∃v,(execOp a.eval o).run P w= .ok (.value v) w/\BQ γ u v
def Fc{P:Program}{s:Sem Value}{v:Value}(hs:s.run P w= .ok v w):(do pure (Next.value (<-s)):Sem Next).run P w= .ok (.value v) w:=by simp[hs]
def tC{o:Oper}{c x y:Operand}(ho:o.op= .pick c x y)(hr:Df C γ0 w0 γ Z U h a w){args:List Ab}(ha:Bs C U [c,x,y]=some args):IM C.P γ a o w .pick args:=by
 intro u hu;simp only[AE] at hu;split at hu;.rename_i b p q;cases hu;obtain⟨_,_,_,e,h1,h2,h3⟩:=(D9 hr ha).Vz;simp only[AV,CM,Cu] at e;obtain⟨g,f,d,_⟩:=e;rw[<-g] at h1;rw[<-f] at h2;rw[<-d] at h3;refine⟨if b then a.eval x else a.eval y,?_,by cases b<;>simpa⟩;simp[execOp,ho,Tv h1,asBool]
 .cases hu
def px{o:Oper}{op:BinOp}{t:TypeId}{x y:Operand}{p:Z6}(hp:Rr C.P op t=some p)(he:execOp a.eval o=(do pure (Next.value (<-(do eqGuard op t x y (a.eval x) (a.eval y);binOp op t (a.eval x) (a.eval y):Sem Value)))))
  (hr:Df C γ0 w0 γ Z U h a w) {args:List Ab} (ha:Bs C U [x,y]=some args):IM C.P γ a o w p args:=by
 intro u hu;obtain⟨v,c,b⟩:=nL (w:=w) hp x y (D9 hr ha) hu;exact⟨v,by rw[he];exact Fc c,b⟩
def Hm(hr:Df C γ0 w0 γ Z U h a w){x:Operand}{args:List Ab}(ha:Bs C U [x]=some args):∃u,args=[u]/\BQ γ u (a.eval x):=by
 have h1:=D9 hr ha;cases args with
 |nil=>cases h1
 |cons u us=>
  obtain⟨_,_,e,h2,h3⟩:=h1.Nc;cases e;cases us with
  |nil=>exact⟨u,rfl,h2⟩
  |cons _ _=>obtain⟨_,_,e,_⟩:=h3.Nc;cases e
def Fs(hr:Df C γ0 w0 γ Z U h a w){x y:Operand}{args:List Ab}(ha:Bs C U [x,y]=some args):∃u v,args=[u,v]/\BQ γ u (a.eval x)/\BQ γ v (a.eval y):=by
 have h1:=D9 hr ha;cases args with
 |nil=>cases h1
 |cons u us=>
  obtain⟨_,_,e,h2,h3⟩:=h1.Nc;cases e;cases us with
  |nil=>cases h3
  |cons v vs=>
   obtain⟨_,_,e,c,b⟩:=h3.Nc;cases e;cases vs with
   |nil=>exact⟨u,v,rfl,h2,c⟩
   |cons _ _=>obtain⟨_,_,e,_⟩:=b.Nc;cases e
def zd{o:Oper}{op:UnOp}{x:Operand}(he:execOp a.eval o=(do pure (Next.value (<-Op.unary op (a.eval x)))))
  (hr:Df C γ0 w0 γ Z U h a w) {args:List Ab} (ha:Bs C U [x]=some args):IM C.P γ a o w (.un op) args:=by
 intro u hu;obtain⟨v,rfl,h1⟩:=Hm hr ha;simp only[AE] at hu;obtain⟨r,c,b⟩:=aDX (P:=C.P) (w:=w) h1 hu;exact⟨r,by rw[he];exact Fc c,b⟩
def tD{o:Oper}{src dst:TypeId}{k l:IntKind}{x:Operand}(hs:C.P.underlying src=some (.int l))(hd:C.P.underlying dst=some (.int k))(he:execOp a.eval o=(do pure (Next.value (<-convert src dst (a.eval x)))))
  (hr:Df C γ0 w0 γ Z U h a w) {args:List Ab} (ha:Bs C U [x]=some args):IM C.P γ a o w (.conv k) args:=by
 intro u hu;obtain⟨v,rfl,h1⟩:=Hm hr ha;simp only[AE] at hu;split at hu;.rename_i e;cases e;cases hu;rw[EO h1] at he;exact⟨_,by rw[he];exact Fc (fV hs hd),rfl⟩
 .cases hu
def py{o:Oper}{src dst:TypeId}{l:IntKind}{x:Operand}(hs:C.P.underlying src=some (.int l))(hd:C.P.underlying dst=some .string)(he:execOp a.eval o=(do pure (Next.value (<-convert src dst (a.eval x)))))
  (hr:Df C γ0 w0 γ Z U h a w) {args:List Ab} (ha:Bs C U [x]=some args):IM C.P γ a o w .i2s args:=by
 intro u hu;obtain⟨v,rfl,h1⟩:=Hm hr ha;simp only[AE] at hu;split at hu;.rename_i e;cases e;cases hu;rw[EO h1] at he;exact⟨_,by rw[he];exact Fc (fW hs hd),rfl⟩
 .cases hu
def nN{o:Oper}{t:TypeId}{x:Operand}{f off:Nat}{sh:Option Nat}(hf:Jc C.P t f=some (off,sh))(he:execOp a.eval o=(do pure (Next.value (<-Instr.field t (a.eval x) f))))
  (hr:Df C γ0 w0 γ Z U h a w) {args:List Ab} (ha:Bs C U [x]=some args):IM C.P γ a o w (.part off sh) args:=by
 intro u hu;obtain⟨v,rfl,h1⟩:=Hm hr ha;simp only[AE] at hu;split at hu;.rename_i e;cases e;obtain⟨r,c,b⟩:=pq (w:=w) hf h1 hu;exact⟨r,by rw[he];exact Fc c,b⟩
 .cases hu
def Wn{o:Oper}{t:TypeId}{x:Operand}{f off:Nat}{sh:Option Nat}(hf:Jc C.P t f=some (off,sh))(he:execOp a.eval o=(do pure (Next.value (<-Instr.fieldAt t (a.eval x) f))))
  (hr:Df C γ0 w0 γ Z U h a w) {args:List Ab} (ha:Bs C U [x]=some args):IM C.P γ a o w (.GC off) args:=by
 intro u hu;obtain⟨v,rfl,h1⟩:=Hm hr ha;simp only[AE] at hu;obtain⟨r,c,b⟩:=nM (w:=w) hf h1 hu;exact⟨r,by rw[he];exact Fc c,b⟩
def pz{o:Oper}{x:Operand}{i:Nat}(he:execOp a.eval o=(do pure (Next.value (<-Instr.extract (a.eval x) i))))
  (hr:Df C γ0 w0 γ Z U h a w) {args:List Ab} (ha:Bs C U [x]=some args):IM C.P γ a o w (.ext i) args:=by
 intro u hu;obtain⟨v,rfl,h1⟩:=Hm hr ha;simp only[AE] at hu;split at hu;.rename_i e;cases e;obtain⟨r,c,b⟩:=aAd (P:=C.P) (w:=w) h1 hu;exact⟨r,by rw[he];exact Fc c,b⟩
 .cases hu
def Wo{o:Oper}{t:TypeId}{x y:Operand}(ht:C.P.underlying t=some .string)(he:execOp a.eval o=(do pure (Next.value (<-Instr.index t (a.eval x) (a.eval y)))))
  (hr:Df C γ0 w0 γ Z U h a w) {args:List Ab} (ha:Bs C U [x,y]=some args):IM C.P γ a o w .Wg args:=by
 intro u hu;obtain⟨p,q,rfl,h1,h2⟩:=Fs hr ha;simp only[AE] at hu;split at hu
 .rename_i e;cases e;split at hu
  .rename_i s k i h0;cases hb:s[i.toNat]? with
   |none=>rw[hb] at hu;cases hu
   |some b=>rw[hb] at hu;cases hu;rw[Pq h1,EO h2] at he;exact⟨_,by rw[he];exact Fc (aG ht h0 hb),rfl⟩
  .cases hu
 .cases hu
def Wp{o:Oper}{t e:TypeId}{len n:Nat}{sh:Option Nat}{x y:Operand}(ht:C.P.underlying t=some (.array len e))(hn:B1 C.P e=some n)(sD:FL C.P e=some sh)(he:execOp a.eval o=(do pure (Next.value (<-Instr.index t (a.eval x) (a.eval y)))))
  (hr:Df C γ0 w0 γ Z U h a w) {args:List Ab} (ha:Bs C U [x,y]=some args):IM C.P γ a o w (.aDN len n sh) args:=by
 intro u hu;obtain⟨p,q,rfl,h1,h2⟩:=Fs hr ha;simp only[AE] at hu;split at hu
 .rename_i e;cases e;rename_i cs k i;cases hb:M7 i len with
  |none=>rw[hb] at hu;cases hu
  |some j=>rw[hb] at hu;simp only[Cx] at hu;rw[EO h2] at he;obtain⟨r,c,b⟩:=aF (w:=w) (k:=k) ht hn sD h1 hb hu;exact⟨r,by rw[he];exact Fc c,b⟩
 .cases hu
def XZ{o:Oper}{t e:TypeId}{n:Nat}{x y:Operand}(ht:C.P.underlying t=some (.slice e))(hn:B1 C.P e=some n)(he:execOp a.eval o=(do pure (Next.value (<-Instr.indexAt t (a.eval x) (a.eval y)))))
  (hr:Df C γ0 w0 γ Z U h a w) {args:List Ab} (ha:Bs C U [x,y]=some args):IM C.P γ a o w (.Hj n) args:=by
 intro u hu;obtain⟨p,q,rfl,h1,h2⟩:=Fs hr ha;simp only[AE] at hu;split at hu;.rename_i e;cases e;rename_i k i;rw[EO h2] at he;obtain⟨r,c,b⟩:=sY (w:=w) (k:=k) ht hn h1 hu;exact⟨r,by rw[he];exact Fc c,b⟩
 .cases hu
def aI{o:Oper}{t e:TypeId}{len n:Nat}{x y:Operand}(ht:C.P.underlying t=some (.array len e))(hn:B1 C.P e=some n)(he:execOp a.eval o=(do pure (Next.value (<-Instr.indexAt t (a.eval x) (a.eval y)))))
  (hr:Df C γ0 w0 γ Z U h a w) {args:List Ab} (ha:Bs C U [x,y]=some args):IM C.P γ a o w (.Vv len n) args:=by
 intro u hu;obtain⟨p,q,rfl,h1,h2⟩:=Fs hr ha;simp only[AE] at hu;split at hu
 .rename_i e;cases e;rename_i k i;cases hb:M7 i len with
  |none=>rw[hb] at hu;cases hu
  |some j=>rw[hb] at hu;simp only[Cx] at hu;rw[EO h2] at he;obtain⟨r,c,b⟩:=pt (w:=w) (k:=k) ht hn h1 hb hu;exact⟨r,by rw[he];exact Fc c,b⟩
 .cases hu
def VB{o:Oper}{t:TypeId}{x:Operand}{lo hi:Option Operand}{isStr:Bool}{size:Nat}(ht:if isStr=true then C.P.underlying t=some .string else∃e,C.P.underlying t=some (.slice e)/\B1 C.P e=some size)
  (he:execOp a.eval o=(do pure (Next.value (<-Instr.sliceAt t (a.eval x) (lo.map a.eval) (hi.map a.eval) none))))
  (hr:Df C γ0 w0 γ Z U h a w) {args:List Ab} (ha:Bs C U (x::(lo.toList++hi.toList))=some args):IM C.P γ a o w (.Ro size isStr lo.isSome hi.isSome) args:=by
 intro u hu;have h1:=D9 hr ha;cases args with
 |nil=>cases h1
 |cons s as=>obtain⟨_,_,e,h2,h3⟩:=h1.Nc;cases e;simp only[AE] at hu;obtain⟨r,c,b⟩:=aAe (P:=C.P) (w:=w) (lo:=lo.map a.eval) (hi:=hi.map a.eval) ht h2 (by cases lo<;>cases hi<;>simpa using h3) (by simpa using hu);exact⟨r,by rw[he];exact Fc c,b⟩
def nO{o:Oper}{t:TypeId}{parts:Array (Nat×Operand)}{z:Ab}{ps:List (Nat×Nat)}(hz:HB C.P t=some z)(hp:KN C.P t parts.toList=some ps)(hb:WR C.P t=true)
  (he:execOp a.eval o=(do pure (Next.value (<-Instr.build t (parts.map λ(i,x)=>(i,a.eval x))))))
  (hr:Df C γ0 w0 γ Z U h a w) {args:List Ab} (ha:Bs C U (parts.toList.map (·.2))=some args):IM C.P γ a o w (.Dc z.cells ps) args:=by
 intro u hu;obtain⟨r,c,b⟩:=pv (w:=w) hz hp hb (D9 hr ha) hu;exact⟨r,by rw[he];exact Fc c,b⟩
def fY{o:Oper}{x:Operand}(ho:o.op= .nilCheck x)(hr:Df C γ0 w0 γ Z U h a w){args:List Ab}(ha:Bs C U [x]=some args):IM C.P γ a o w .M6 args:=by
 intro u hu;obtain⟨v,rfl,h1⟩:=Hm hr ha;simp only[AE,nA] at hu;split at hu;.rename_i p;cases hu;obtain⟨i,k⟩:=p;obtain⟨b,hb,hv⟩:=h1;exact⟨_,by simp only[execOp,ho,hv];rfl,b,hb,rfl⟩
 .cases hu;obtain⟨b,k,hv,hm⟩:=h1;exact⟨_,by simp only[execOp,ho,hv];rfl,b,k,rfl,hm⟩
 .cases hu;obtain⟨fs,cs,hv,p,q⟩:=h1;exact⟨_,by simp only[execOp,ho,hv];rfl,fs,cs,rfl,p,q⟩
 .cases hu
def Oj:∀{xs:List Operand} {us:List Ab},Bs C U xs=some us->us.length=xs.length
 |[],us,h=>by cases h;rfl
 |x::xs,us,h=>by
  unfold Bs at h;split at h;.rename_i u DS h1 h2;cases h;simp[Oj h2]
  .cases h
def Pu{P:Program}{o:Oper}{c:Call}{b:Builtin}{s:Sem Value}(ho:o.op= .call c)(hc:c.callee= .builtin b)(hs:builtin b c.argTypes o.type (c.args.map λ| .const _=>true|_=>false) (c.args.map a.eval)=(do pure (Next.value (<-s)))){v:Value}
  (hv:s.run P w= .ok v w):(execOp a.eval o).run P w= .ok (.value v) w:=by
 have:execOp a.eval o=(do pure (Next.value (<-s))):=by rw[<-hs];simp only[execOp,ho,resolve,hc];rfl
 rw[this];exact Fc hv
def cI{o:Oper}{c:Call}{t:TypeId}{isStr:Bool}(ho:o.op= .call c)(hc:c.callee= .builtin .len)(h0:c.argTypes[0]?=some t)(ht:if isStr=true then C.P.underlying t=some .string else∃e,C.P.underlying t=some (.slice e))
  (hr:Df C γ0 w0 γ Z U h a w) {args:List Ab} (ha:Bs C U c.args.toList=some args):IM C.P γ a o w (.len isStr) args:=by
 intro u hu;simp only[AE] at hu;split at hu
 .rename_i s;have hl:=Oj ha;obtain⟨x,hx⟩:∃x,c.args.toList=[x]:=aH8.1 hl.symm;rw[hx] at ha;obtain⟨_,e,h1⟩:=Hm hr ha;cases e;obtain⟨r,d,b⟩:=aAc (P:=C.P) (w:=w) (ty:=o.type) ht h0 h1 hu;have e:c.args.map a.eval=#[a.eval x]:=by apply Ia;simp[hx]
  exact⟨r,Pu ho hc (s:=Builtin.len_ c.argTypes o.type #[a.eval x]) (by rw[e];rfl) d,b⟩
 .cases hu
def Tw{o:Oper}{c:Call}{isMax:Bool}(ho:o.op= .call c)(hc:c.callee= .builtin (if isMax then .max else .min))(hr:Df C γ0 w0 γ Z U h a w){args:List Ab}(ha:Bs C U c.args.toList=some args):IM C.P γ a o w (.MA isMax) args:=by
 intro u hu;simp only[AE] at hu;split at hu
 .rename_i k p l q;split at hu
  .rename_i hk;subst hk;cases hu;have hl:=Oj ha;obtain⟨x,y,hx⟩:∃x y,c.args.toList=[x,y]:=by
    cases hq:c.args.toList with
    |nil=>rw[hq] at hl;simp at hl
    |cons x xs=>cases xs with
     |nil=>rw[hq] at hl;simp at hl
     |cons y ys=>cases ys with
      |nil=>exact⟨x,y,rfl⟩
      |cons _ _=>rw[hq] at hl;simp at hl
   rw[hx] at ha;obtain⟨_,_,e,h1,h2⟩:=Fs hr ha;cases e;have e:c.args.map a.eval=#[.int k p,.int k q]:=by apply Ia;simp[hx,EO h1,EO h2]
   cases isMax with
   |true=>exact⟨_,Pu ho hc (s:=Builtin.max_ c.argTypes o.type #[.int k p,.int k q]) (by rw[e];rfl) (by simp[Builtin.max_,Builtin.max2]),rfl⟩
   |false=>exact⟨_,Pu ho hc (s:=Builtin.min_ c.argTypes o.type #[.int k p,.int k q]) (by rw[e];rfl) (by simp[Builtin.min_,Builtin.min2]),rfl⟩
  .cases hu
 .cases hu
end
end Go.Am
end
section
namespace Go.Am
open Go
section
variable{C:Gw}{γ0 γ:Gh}{w0 w:World}{Z:Nat->Nat}{U:BT}{h:Ai}{a:Act}{fid:FuncId}{ops:List Oper}
def NW{x:Operand}{d:Nat}{take:Bool}{r:E2}(h:Lr C U x d take=some r):∃ws,r= .pure ws:=by
 unfold Lr at h;split at h;.cases h;exact⟨_,rfl⟩
 .cases h;exact⟨_,rfl⟩
 .split at h;.cases h;exact⟨_,rfl⟩
  .cases hc:Jd _ with
   |none=>rw[hc] at h;cases h
   |some s=>rw[hc] at h;cases h;exact⟨_,rfl⟩
 .cases hc:Jd _ with
  |none=>rw[hc] at h;cases h
  |some s=>rw[hc] at h;cases h;exact⟨_,rfl⟩
 .cases h
def cJ{t:TypeId}{v:Ab}{d:Nat}{p:Z6}{args:List Ab}{dst:Option Nat}{BU:Bool}{b:Option (Nat×Ab)}:Vw C fid t v d≠some (.op p args dst BU b):=by
 unfold Vw;intro h;split at h;.cases h
 .split at h;.cases h
  .split at h<;>cases h
def tE{t:TypeId}{x:Operand}{d:Nat}{take:Bool}{p:Z6}{args:List Ab}{dst:Option Nat}{BU:Bool}{b:Option (Nat×Ab)}:MB C U t x d take≠some (.op p args dst BU b):=by
 unfold MB;intro h;split at h;.cases h
 .split at h;.simp only at h;split at h<;>cases h
  .cases h
 .split at h<;>cases h
 .cases h
def nQ{t:TypeId}{x y:Operand}{p:Z6}{args:List Ab}{dst:Option Nat}{BU:Bool}{b:Option (Nat×Ab)}:Kd C U t x y≠some (.op p args dst BU b):=by
 unfold Kd;intro h;split at h;.cases h
 .split at h<;>cases h
 .cases h
def p_{o:Oper}{p:Z6}{args:List Ab}{dst:Option Nat}{BU:Bool}{j:Option (Nat×Ab)}(hc:GG C fid ops U o=some (.op p args dst BU j))(JZ:p.still=true)(hr:Df C γ0 w0 γ Z U h a w):
  IM C.P γ a o w p args/\dst=o.dst/\BU=false/\j=none:=by
 unfold GG at hc
 split at hc
 .split at hc
  .obtain⟨ws,e⟩:=NW hc;cases e
  .cases hc
 .split at hc
  .obtain⟨ws,e⟩:=NW hc;cases e
  .cases hc
 .rename_i c x y ho
  split at hc
  .obtain⟨ws,e⟩:=NW hc;cases e
  .obtain⟨ws,e⟩:=NW hc;cases e
  .obtain⟨as,g,b⟩:=Ea hc
   cases b
   exact⟨tC ho hr g,rfl,rfl,rfl⟩
 .split at hc
  .split at hc
   .split at hc<;>cases hc
   .exact absurd hc cJ
  .cases hc
 .split at hc
  .exact absurd hc cJ
  .cases hc
 .rename_i t parts ho
  split at hc
  .rename_i z ps hz hp
   split at hc
   .rename_i hb
    obtain⟨as,g,b⟩:=Ea hc
    cases b
    exact⟨nO hz hp hb (by simp[execOp,ho]) hr g,rfl,rfl,rfl⟩
   .cases hc
  .cases hc
 .split at hc
  .split at hc
   .split at hc
    .split at hc
     .cases hc;cases JZ
     .cases hq:Bs C U _ with
      |none=>rw[hq] at hc;cases hc
      |some q=>rw[hq] at hc;cases hc;cases JZ
    .cases hc
   .cases hc
  .cases hc
 .split at hc
  .exact absurd hc tE
  .cases hc
 .split at hc
  .exact absurd hc nQ
  .cases hc
 .rename_i x ho
  split at hc
  .cases hc
  .cases hc
  .obtain⟨as,g,b⟩:=Ea hc
   cases b
   exact⟨fY ho hr g,rfl,rfl,rfl⟩
 .rename_i op t x y k ho
  split at hc
  .rename_i q hq
   obtain⟨as,g,b⟩:=Ea hc
   cases b
   exact⟨px hq (by simp[execOp,ho]) hr g,rfl,rfl,rfl⟩
  .cases hc
 .rename_i op t x ho
  obtain⟨as,g,b⟩:=Ea hc
  cases b
  exact⟨zd (by simp[execOp,ho]) hr g,rfl,rfl,rfl⟩
 .rename_i src aNi x ho
  split at hc
  .cases hq:Fi C U x with
   |none=>rw[hq] at hc;cases hc
   |some q=>rw[hq] at hc;cases hc
  .split at hc
   .cases hq:Fi C U x with
    |none=>rw[hq] at hc;cases hc
    |some q=>rw[hq] at hc;cases hc
   .obtain⟨as,g,b⟩:=Ea hc
    cases b;cases JZ
  .rename_i q Tx mQ hq
   obtain⟨as,g,b⟩:=Ea hc
   cases b
   refine⟨?_,rfl,rfl,rfl⟩
   unfold XL at hq
   split at hq
   .rename_i hs hd
    cases hq
    exact tD hs hd (by simp[execOp,ho]) hr g
   .rename_i hs hd
    cases hq
    exact py hs hd (by simp[execOp,ho]) hr g
   .cases hq
   .split at hq
    .cases hq;cases JZ
    .cases hq
   .split at hq
    .cases hq;cases JZ
    .cases hq
   .cases hq
  .cases hc
 .split at hc
  .cases hc
  .cases hc
 .cases hc
 .split at hc
  .split at hc<;>cases hc
  .cases hc
 .split at hc
  .split at hc<;>cases hc
  .cases hc
 .split at hc
  .split at hc<;>cases hc
  .cases hc
 .split at hc
  .split at hc<;>cases hc
  .cases hc
 .split at hc
  .split at hc
   .exact absurd hc Ma
   .cases hc
  .cases hc
 .split at hc
  .cases hc
  .exact absurd hc Ma
  .cases hc
 .split at hc
  .split at hc<;>first|exact absurd hc Ma|cases hc
  .cases hc
 .split at hc
  .exact absurd hc Ma
  .cases hc
 .rename_i t x lo hi ho
  split at hc
  .rename_i ht
   obtain⟨as,g,b⟩:=Ea hc
   cases b
   exact⟨VB (isStr:=true) ht (by simp[execOp,ho]) hr g,rfl,rfl,rfl⟩
  .rename_i e ht
   split at hc
   .rename_i n hn
    split at hc
    .exact absurd hc Ma
    .obtain⟨as,g,b⟩:=Ea hc
     cases b
     exact⟨VB (isStr:=false) ⟨e,ht,hn⟩ (by simp[execOp,ho]) hr g,rfl,rfl,rfl⟩
   .cases hc
  .cases hc
 .rename_i t x f ho
  split at hc
  .rename_i off sh d hf hd
   split at hc
   .cases hc
   .cases hc
   .obtain⟨as,g,b⟩:=Ea hc
    cases b
    exact⟨Wn hf (by simp[execOp,ho]) hr g,hd.symm,rfl,rfl⟩
  .cases hc
 .rename_i t x f ho
  split at hc
  .rename_i off sh hf
   obtain⟨as,g,b⟩:=Ea hc
   cases b
   exact⟨nN hf (by simp[execOp,ho]) hr g,rfl,rfl,rfl⟩
  .cases hc
 .rename_i t x i ho
  split at hc
  .rename_i e ht
   split at hc
   .rename_i n hn
    obtain⟨as,g,b⟩:=Ea hc
    cases b
    exact⟨XZ ht hn (by simp[execOp,ho]) hr g,rfl,rfl,rfl⟩
   .cases hc
  .rename_i len e ht
   split at hc
   .rename_i n hn
    split at hc
    .cases hc
    .obtain⟨as,g,b⟩:=Ea hc
     cases b
     exact⟨aI ht hn (by simp[execOp,ho]) hr g,rfl,rfl,rfl⟩
   .cases hc
  .cases hc
 .rename_i t x i ho
  split at hc
  .rename_i ht
   obtain⟨as,g,b⟩:=Ea hc
   cases b
   exact⟨Wo ht (by simp[execOp,ho]) hr g,rfl,rfl,rfl⟩
  .rename_i len e ht
   split at hc
   .rename_i n sh hn sD
    obtain⟨as,g,b⟩:=Ea hc
    cases b
    exact⟨Wp ht hn sD (by simp[execOp,ho]) hr g,rfl,rfl,rfl⟩
   .cases hc
  .cases hc
 .rename_i x i ho
  obtain⟨as,g,b⟩:=Ea hc
  cases b
  exact⟨pz (by simp[execOp,ho]) hr g,rfl,rfl,rfl⟩
 .rename_i c ho
  unfold Sq at hc
  split at hc
  .rename_i hcl
   split at hc
   .rename_i t h0
    split at hc
    .rename_i ht
     obtain⟨as,g,b⟩:=Ea hc
     cases b
     exact⟨cI (isStr:=true) ho hcl h0 ht hr g,rfl,rfl,rfl⟩
    .rename_i e ht
     obtain⟨as,g,b⟩:=Ea hc
     cases b
     exact⟨cI (isStr:=false) ho hcl h0 ⟨e,ht⟩ hr g,rfl,rfl,rfl⟩
    .cases hc
   .cases hc
  .split at hc
   .split at hc
    all_goals first
     |(cases hc;done)
     | (split at hc
        . split at hc
          . split at hc
            . split at hc
              . split at hc
                . cases hc
                . split at hc
                  . cases hc
                  . cases hc; cases JZ
              . split at hc <;> cases hc
            . cases hc
          . cases hc
        . cases hc)
   .cases hc
  .split at hc
   .split at hc
    all_goals first
     |(cases hc;done)
     | (split at hc
        . exact absurd hc Ma
        . cases hc)
   .cases hc
  .split at hc
   .split at hc
    .split at hc
     .exact absurd hc Ma
     .cases hc
    .cases hc
   .cases hc
  .rename_i hcl
   split at hc
   .obtain⟨as,g,b⟩:=Ea hc
    cases b
    exact⟨Tw (isMax:=true) ho hcl hr g,rfl,rfl,rfl⟩
   .cases hc
  .rename_i hcl
   split at hc
   .obtain⟨as,g,b⟩:=Ea hc
    cases b
    exact⟨Tw (isMax:=false) ho hcl hr g,rfl,rfl,rfl⟩
   .cases hc
  .split at hc
   .split at hc
    .split at hc
     .exact absurd hc Ma
     .cases hc
    .cases hc
   split at hc
   .cases hq:Bs C U c.args.toList with
    |none=>rw[hq] at hc;cases hc
    |some q=>
     rw[hq] at hc
     simp only[BW,BO] at hc
     split at hc<;>cases hc
   .cases hc
  .split at hc<;>cases hc
  .cases hc
 .cases hc
end
end Go.Am
end
