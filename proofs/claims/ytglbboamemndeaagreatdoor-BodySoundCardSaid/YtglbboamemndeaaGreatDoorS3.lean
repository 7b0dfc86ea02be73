/- Lemmas -/
import Derived.Test.YtglbboamemndeaaGreatDoorS2
import Derived.Laws.Slices
set_option linter.all false
section
namespace Go.Am
open Go
section
variable{P:Program}{γ:Gh}{w:World}
def RM{a:Bool}{v:Value}(h:BH γ (.bool a) v):v= .bool a:=h
def Eh{k:IntKind}{a:Int}{v:Value}(h:BH γ (.int k a) v):v= .int k a:=h
def NW{a:Aj}{v:Value}(h:BH γ (.str a) v):v= .string ⟨⟨a⟩⟩:=h
def AX.wj{us:List Value}(h:AX γ [] us):us=[]:=h
def AX.LS{a:Aa}{l:List Aa}{us:List Value}(h:AX γ (a::l) us):∃u Dq,us=u::Dq/\BH γ a u/\AX γ l Dq:=h
def AX.one{a:Aa}{us:List Value}(h:AX γ [a] us):∃u,us=[u]/\BH γ a u:=by obtain⟨u,Dq,rfl,h1,h2⟩:=h;rw[h2.wj];exact⟨u,rfl,h1⟩
def AX.K9{a b:Aa}{us:List Value}(h:AX γ [a,b] us):∃u v,us=[u,v]/\BH γ a u/\BH γ b v:=by obtain⟨u,Dq,rfl,h1,h2⟩:=h;obtain⟨v,rfl,c⟩:=h2.one;exact⟨u,v,rfl,h1,c⟩
def AX.Zp{a b c:Aa}{us:List Value}(h:AX γ [a,b,c] us):∃u v x,us=[u,v,x]/\BH γ a u/\BH γ b v/\BH γ c x:=by obtain⟨u,Dq,rfl,h1,h2⟩:=h;obtain⟨v,x,rfl,e,d⟩:=h2.K9;exact⟨u,v,x,rfl,h1,e,d⟩
def Value.JG:Value->Bool
 | .bool _| .pointer _| .slice _ _ _| .func _ _ _| .nilFunc| .map _=>true
 |_=>false
def Ti{op:BinOp}{neg:Bool}(QD:(op= .eql/\neg=false)\/(op= .neq/\neg=true))(t:TypeId)(c b:Operand){x y:Value}(hx:Value.JG x=true)(hy:Value.JG y=true){e:Bool}
  (he:(Op.equal t x y).run P w= .ok e w):(do eqGuard op t c b x y;binOp op t x y:Sem Value).run P w= .ok (.bool (e != neg)) w:=by
 have hg:eqGuard op t c b x y=pure ():=by rcases QD with⟨rfl,_⟩|⟨rfl,_⟩<;>cases x<;>simp[Value.JG] at hx<;>rfl
 rw[hg];rcases QD with⟨rfl,rfl⟩|⟨rfl,rfl⟩
 .have hb:binOp .eql t x y=(do pure (.bool (<-Op.equal t x y))):=by cases x<;>simp[Value.JG] at hx<;>cases y<;>simp[Value.JG] at hy<;>rfl
  simp[hb,he]
 .have hb:binOp .neq t x y=(do pure (.bool (!(<-Op.equal t x y)))):=by cases x<;>simp[Value.JG] at hx<;>cases y<;>simp[Value.JG] at hy<;>rfl
  simp[hb,he]
def kZ{op:BinOp}{neg:Bool}(QD:(op= .eql/\neg=false)\/(op= .neq/\neg=true))(t:TypeId)(d c:Operand)(ht:P.underlying t=some .bool)(a b:Bool):
  (do eqGuard op t d c (.bool a) (.bool b);binOp op t (.bool a) (.bool b):Sem Value).run P w= .ok (.bool ((a==b) != neg)) w:=
 Ti QD t d c rfl rfl (run_equalIn_bool' w 9999 t a b ht)
def UH{d:Nat}{t e:TypeId}(ht:P.underlying t=some (.pointer e))(hz:∃n,BQ P e=some (n+1)){a b:Aa}{x y:Value}(hx:BH γ a x)(hy:BH γ b y){r:Bool}(h:vH a b=some r):
  (Op.equalIn (d+1) t x y).run P w= .ok r w/\Value.JG x=true/\Value.JG y=true:=by
 obtain⟨n,hn⟩:=hz;unfold vH at h;split at h
 .rename_i q;cases h;rw[show x= .pointer none from hx];have:∃p,y= .pointer p/\p.isNone=q.isNone:=by
   cases q with
   |none=>exact⟨none,hy,rfl⟩
   |some p=>obtain⟨i,o⟩:=p;obtain⟨b,_,rfl⟩:=hy;exact⟨_,rfl,rfl⟩
  obtain⟨p,rfl,hp⟩:=this;exact⟨by simp[Op.equalIn,run_underlying ht,hp],rfl,rfl⟩
 .rename_i p;cases h;obtain⟨i,o⟩:=p;obtain⟨b,_,rfl⟩:=hx;rw[show y= .pointer none from hy];exact⟨by simp[Op.equalIn,run_underlying ht],rfl,rfl⟩
 .rename_i p q;split at h;.rename_i he;cases h;subst he;obtain⟨i,o⟩:=p;obtain⟨b,hb,rfl⟩:=hx;obtain⟨b',OS,rfl⟩:=hy;rw[hb] at OS;cases OS;exact⟨by simp[Op.equalIn,run_underlying ht,Du hn,sameAddr],rfl,rfl⟩
  .cases h
 .cases h;rw[show x= .pointer none from hx];obtain⟨b,o,rfl,_⟩:=hy;exact⟨by simp[Op.equalIn,run_underlying ht],rfl,rfl⟩
 .cases h;rw[show y= .pointer none from hy];obtain⟨b,o,rfl,_⟩:=hx;exact⟨by simp[Op.equalIn,run_underlying ht],rfl,rfl⟩
 .cases h
def Ew{d:Nat}{t e:TypeId}(ht:P.underlying t=some (.slice e)){p q:Option Addr}{n c m k:Nat}(h:p=none\/q=none):
  (Op.equalIn (d+1) t (.slice p n c) (.slice q m k)).run P w= .ok (p.isNone&&q.isNone) w:=by
 cases p<;>cases q<;>simp at h<;>simp[Op.equalIn,run_underlying ht]
def LU{d:Nat}{t:TypeId}{a b:Array TypeId}{c:Bool}(ht:P.underlying t=some (.func a b c)){f:Fn}{x y:Array Value}:
  (Op.equalIn (d+1) t .nilFunc .nilFunc).run P w= .ok true w/\(Op.equalIn (d+1) t .nilFunc (.func f x y)).run P w= .ok false w/\(Op.equalIn (d+1) t (.func f x y) .nilFunc).run P w= .ok false w:=by
 refine⟨?_,?_,?_⟩<;>simp[Op.equalIn,run_underlying ht]
def Lg{d:Nat}{t k e:TypeId}(ht:P.underlying t=some (.map k e)){p q:Option Nat}(h:p=none\/q=none):
  (Op.equalIn (d+1) t (.map p) (.map q)).run P w= .ok (p.isNone&&q.isNone) w:=by
 cases p<;>cases q<;>simp at h<;>simp[Op.equalIn,run_underlying ht]
def UI{d:Nat}{t:TypeId}{k:NK}(ht:match k with| .sl=>∃e,P.underlying t=some (.slice e)| .fn=>∃a b c,P.underlying t=some (.func a b c)| .mp=>∃a b,P.underlying t=some (.map a b))
  {a b:Aa} {x y:Value} (hx:BH γ a x) (hy:BH γ b y) {r:Bool} (h:vI k a b=some r):
  (Op.equalIn (d+1) t x y).run P w= .ok r w/\Value.JG x=true/\Value.JG y=true:=by
 unfold vI at h;split at h;case h_1=>obtain⟨e,ht⟩:=ht;cases h;rw[show x= .slice none 0 0 from hx,show y= .slice none 0 0 from hy];exact⟨Ew ht (.inl rfl),rfl,rfl⟩
 case h_2=>obtain⟨e,ht⟩:=ht;cases h;rw[show x= .slice none 0 0 from hx];obtain⟨_,_,rfl,_⟩:=hy;exact⟨Ew ht (.inl rfl),rfl,rfl⟩
 case h_3=>obtain⟨e,ht⟩:=ht;cases h;rw[show y= .slice none 0 0 from hy];obtain⟨_,_,rfl,_⟩:=hx;exact⟨Ew ht (.inr rfl),rfl,rfl⟩
 case h_4=>obtain⟨e,ht⟩:=ht;cases h;rw[show x= .slice none 0 0 from hx];obtain⟨_,rfl⟩:=hy;exact⟨Ew ht (.inl rfl),rfl,rfl⟩
 case h_5=>obtain⟨e,ht⟩:=ht;cases h;rw[show y= .slice none 0 0 from hy];obtain⟨_,rfl⟩:=hx;exact⟨Ew ht (.inr rfl),rfl,rfl⟩
 case h_6=>obtain⟨e,ht⟩:=ht;cases h;rw[show x= .slice none 0 0 from hx];obtain⟨_,_,_,rfl,_⟩:=hy;exact⟨Ew ht (.inl rfl),rfl,rfl⟩
 case h_7=>obtain⟨e,ht⟩:=ht;cases h;rw[show y= .slice none 0 0 from hy];obtain⟨_,_,_,rfl,_⟩:=hx;exact⟨Ew ht (.inr rfl),rfl,rfl⟩
 case h_8=>obtain⟨_,_,_,ht⟩:=ht;cases h;rw[show x= .nilFunc from hx,show y= .nilFunc from hy];exact⟨(LU ht (f:= .func 0) (x:=#[]) (y:=#[])).1,rfl,rfl⟩
 case h_9=>obtain⟨_,_,_,ht⟩:=ht;cases h;rw[show x= .nilFunc from hx];obtain⟨_,_,rfl,_⟩:=hy;exact⟨(LU ht).2.1,rfl,rfl⟩
 case h_10=>obtain⟨_,_,_,ht⟩:=ht;cases h;rw[show y= .nilFunc from hy];obtain⟨_,_,rfl,_⟩:=hx;exact⟨(LU ht).2.2,rfl,rfl⟩
 case h_11=>
  rename_i q;obtain⟨_,_,ht⟩:=ht;cases h;rw[show x= .map none from hx];cases q with
  |none=>rw[show y= .map none from hy];exact⟨Lg ht (.inl rfl),rfl,rfl⟩
  |some id=>obtain⟨b,_,rfl⟩:=hy;exact⟨Lg ht (.inl rfl),rfl,rfl⟩
 case h_12=>obtain⟨_,_,ht⟩:=ht;cases h;rw[show y= .map none from hy];obtain⟨b,_,rfl⟩:=hx;exact⟨Lg ht (.inr rfl),rfl,rfl⟩
 .cases h
def zJ{op:BinOp}{args:List Aa}{u:Aa}(h:Az (.int op) args=some u):∃k a l b,args=[.int k a,.int l b]/\vG op k a l b=some u:=by
 simp only[Az] at h;split at h;.exact⟨_,_,_,_,rfl,h⟩
 .cases h
def zK{op:BinOp}{args:List Aa}{u:Aa}(h:Az (.str op) args=some u):∃a b,args=[.str a,.str b]/\kN op a b=some u:=by
 simp only[Az] at h;split at h;.exact⟨_,_,rfl,h⟩
 .cases h
def lA{op:BinOp}{t:TypeId}{p:Rz}(hp:PY P op t=some p)(f c:Operand){args:List Aa}{x y:Value}(ha:AX γ args [x,y]){u:Aa}(h:Az p args=some u):
  ∃v,(do eqGuard op t f c x y;binOp op t x y:Sem Value).run P w= .ok v w/\BH γ u v:=by
 unfold PY at hp;split at hp;.cases hp;obtain⟨k,a,l,b,rfl,h⟩:=zJ h;obtain⟨_,_,e,hx,hy⟩:=ha.K9;cases e;rw[Eh hx,Eh hy];exact kT t f c h
 .cases hp;obtain⟨a,b,rfl,h⟩:=zK h;obtain⟨_,_,e,hx,hy⟩:=ha.K9;cases e;rw[NW hx,NW hy];exact kU t f c h
 .rename_i d h1 h2 hu;obtain⟨neg,QD,g⟩:∃neg,((op= .eql/\neg=false)\/(op= .neq/\neg=true))/\Ta P t neg d=some p:=by cases op<;>first|cases hp;done|exact⟨false,.inl ⟨rfl,rfl⟩,hp⟩|exact⟨true,.inr ⟨rfl,rfl⟩,hp⟩
  clear h1 h2 hp;have hp:=g;clear g;unfold Ta at hp;split at hp
  .cases hp;simp only[Az] at h;split at h;.obtain⟨_,_,e,hx,hy⟩:=ha.K9;cases e;cases h;rw[RM hx,RM hy];exact⟨_,kZ QD t f c hu _ _,rfl⟩
   .cases h
  .split at hp
   .rename_i hg;cases hk:O4 P 20 t with
    |none=>rw[hk] at hp;cases hp
    |some ks=>
     rw[hk] at hp;cases hp;simp only[Az] at h;split at h;.obtain⟨_,_,e,hx,hy⟩:=ha.K9;cases e;exact kY QD hg hk ⟨_,hu⟩ hx hy h
     .cases h
   .cases hp
  .split at hp;.cases hp
   .rename_i e hz;cases hp;simp only[Az] at h;split at h
    .rename_i a b;obtain⟨_,_,e,hx,hy⟩:=ha.K9;cases e;cases hq:vH a b with
     |none=>rw[hq] at h;cases h
     |some r=>rw[hq] at h;cases h;obtain⟨m,j,i⟩:=UH (w:=w) (d:=9999) hu (by cases YC:BQ P e with|none=>rw[YC] at hz;exact absurd rfl hz|some n=>cases n with|zero=>rw[YC] at hz;exact absurd rfl hz|succ n=>exact⟨n,rfl⟩) hx hy hq;exact⟨_,Ti QD t f c j i m,rfl⟩
    .cases h
  all_goals first
   |cases hp;done
   | (cases hp
      simp only [Az] at h
      split at h
      . rename_i a b
        obtain ⟨_, _, e, hx, hy⟩ := ha.K9
        cases e
        cases hq : vI _ a b with
        | none => rw [hq] at h; cases h
        | some r =>
          rw [hq] at h; cases h
          obtain ⟨m, j, i⟩ := UI (w := w) (P := P) (t := t) (d := 9999) (by first | exact ⟨_, hu⟩ | exact ⟨_, _, hu⟩ | exact ⟨_, _, _, hu⟩) hx hy hq
          exact ⟨_, Ti QD t f c j i m, rfl⟩
      . cases h)
 .cases hp
end
end Go.Am
end
section
namespace Go.Am
open Go
section
variable{P:Program}{γ:Gh}{w:World}
def Ģ{op:UnOp}{a u:Aa}{x:Value}(hx:BH γ a x)(h:Ę op a=some u):∃v,(Op.unary op x).run P w= .ok v w/\BH γ u v:=by
 unfold Ę at h;split at h;.cases h;rw[RM hx];exact⟨_,rfl,rfl⟩
 .cases h;rw[Eh hx];exact⟨_,rfl,rfl⟩
 .rename_i k n;rw[Eh hx];unfold È at h;cases hs:PV (Op.unary .xor (.int k n)) with
  |none=>rw[hs] at h;cases h
  |some v=>
   rw[hs] at h;have b:=We hs;simp only[Cd] at h;split at h;.cases h;exact⟨_,by rw[b];rfl,rfl⟩
   .cases h
 .cases h
def aV{src dst:TypeId}{k l k':IntKind}{n:Int}(hs:P.underlying src=some (.int l))(hd:P.underlying dst=some (.int k)):(convert src dst (.int k' n)).run P w= .ok (.int k (k.wrap n)) w:=by simp[convert,run_underlying hs,run_underlying hd,Conv.intToInt]
def aW{src dst:TypeId}{l k':IntKind}{n:Int}(hs:P.underlying src=some (.int l))(hd:P.underlying dst=some .string):(convert src dst (.int k' n)).run P w= .ok (.string (Utf8.encode n)) w:=by simp[convert,run_underlying hs,run_underlying hd,Conv.intToString]
def zL{t:TypeId}{f off:Nat}{b:Option Nat}(hf:H5 P t f=some (off,b)){cs:List Aa}{x:Value}(hx:BH γ (.agg cs) x){u:Aa}(h:E8 cs off b=some u):∃v,(Instr.field t x f).run P w= .ok v w/\BH γ u v:=by
 unfold H5 at hf;split at hf
 .rename_i fs hu;split at hf
  .rename_i fd vX;split at hf;.rename_i n c h1 h2;cases hf;obtain⟨us,rfl,hr,h1c⟩:=hx;obtain⟨v,p,q⟩:=kW (w:=w) h2 hr h1c h;exact⟨v,by simp[Instr.field,run_underlying hu,vX,asAgg,p],q⟩
   .cases hf
  .cases hf
 .cases hf
def Q4{i:Int}{len j:Nat}(h:LN i len=some j):0<=i/\i<len/\i.toNat=j:=by
 unfold LN at h;split at h;.rename_i hc;cases h;exact⟨hc.1,hc.2,rfl⟩
 .cases h
def YD{t e:TypeId}{len n:Nat}{b:Option Nat}(ht:P.underlying t=some (.array len e))(hn:BQ P e=some n)(o9:E5 P e=some b){cs:List Aa}{x:Value}(hx:BH γ (.agg cs) x){k:IntKind}{i:Int}{j:Nat}
  (hi:LN i len=some j) {u:Aa} (h:E8 cs (j*n) b=some u):∃v,(Instr.index t x (.int k i)).run P w= .ok v w/\BH γ u v:=by
 obtain⟨us,rfl,hr,h1c⟩:=hx;obtain⟨f,d,c⟩:=Q4 hi;obtain⟨v,p,q⟩:=kW (w:=w) o9 hr h1c h;exact⟨v,by simp[Instr.index,asIntOf,run_underlying ht,f,d,Du hn,c,p],q⟩
def YE{t:TypeId}(ht:P.underlying t=some .string){s:Aj}{k:IntKind}{i:Int}{b:UInt8}(h0:0<=i)(h:s[i.toNat]?=some b):
  (Instr.index t (.string ⟨⟨s⟩⟩) (.int k i)).run P w= .ok (.int .u8 b.toNat) w:=by
 obtain⟨hlt,hb⟩:=Al.1 h;have e:(⟨⟨s⟩⟩:ByteArray)[i.toNat]?=some b:=by rw[ByteArray.getElem?_lt' _ _ (show i.toNat<(⟨⟨s⟩⟩:ByteArray).size from hlt),<-hb];rfl
 simp[Instr.index,asIntOf,run_underlying ht,h0,e]
def vY{p u:Aa}{x:Value}{n:Nat}(hx:BH γ p x)(h:VV p n=some u):∃a,x= .pointer (some a)/\BH γ u (.pointer (some (a.add n))):=by
 unfold VV at h;split at h;.rename_i cs;cases h;obtain⟨b,o,rfl,hm⟩:=hx;refine⟨_,rfl,b,o+n,?_,hm.drop n⟩;unfold Addr.add;split<;>simp_all
 .rename_i id o;cases h;obtain⟨b,hb,rfl⟩:=hx;refine⟨_,rfl,b,hb,?_⟩;unfold Addr.add;split<;>simp_all
 .cases h
def lB{t:TypeId}{f off:Nat}{c:Option Nat}(hf:H5 P t f=some (off,c)){p u:Aa}{x:Value}(hx:BH γ p x)(h:VV p off=some u):∃v,(Instr.fieldAt t x f).run P w= .ok v w/\BH γ u v:=by
 obtain⟨a,rfl,hu⟩:=vY hx h;refine⟨_,?_,hu⟩;unfold H5 at hf;split at hf
 .rename_i fs zI;split at hf
  .rename_i fd vX;split at hf;.rename_i n b h1 h2;cases hf;simp[Instr.fieldAt,run_underlying zI,vX,Instr.sureAddr,fieldPlace,Du h1]
   .cases hf
  .cases hf
 .cases hf
def pX{t e:TypeId}{n:Nat}(ht:P.underlying t=some (.slice e))(hn:BQ P e=some n){s u:Aa}{x:Value}(hx:BH γ s x){k:IntKind}{i:Int}(h:elemOf n s i=some u):
  ∃v,(Instr.indexAt t x (.int k i)).run P w= .ok v w/\BH γ u v:=by
 have IN:P.underlying t=some (.slice (P.elem t)):=by simp[Program.elem,ht]
 have he:P.elem t=e:=by simp[Program.elem,ht]
 unfold elemOf at h;split at h
 .rename_i z Av;split at h
  .rename_i hz;subst hz;split at h
   .rename_i h0;cases hr:Av[i.toNat]? with
    |none=>rw[hr] at h;cases h
    |some row=>
     rw[hr] at h;cases h;obtain⟨d,cap,rfl,hc,hsp,hm⟩:=hx;obtain⟨hl,c⟩:=hm.get hr;have hlt:i<Av.length:=by have:=(Al.1 hr).1;omega
     have pY:=NR hsp hc Ac;generalize d.block=b at*;generalize d.off=o at*;subst pY;refine⟨.pointer (some ((⟨b,o,none⟩:Addr).add (i.toNat*z))),by rw[run_indexAt_slice w t _ _ _ _ _ IN,Ag ⟨h0,hlt⟩,he,Du hn];rfl,b,o+i.toNat*z,?_,c⟩;unfold Addr.add;split<;>simp_all
   .cases h
  .cases h
 .rename_i id off len z;split at h
  .rename_i hz;subst hz;cases hj:LN i len with
   |none=>rw[hj] at h;cases h
   |some j=>rw[hj] at h;cases h;obtain⟨l,g,f⟩:=Q4 hj;subst f;obtain⟨b,cap,hb,rfl,hc,hz⟩:=hx;refine⟨.pointer (some ((⟨b,off,none⟩:Addr).add (i.toNat*z))),by rw[run_indexAt_slice w t _ _ _ _ _ IN,Ag ⟨l,g⟩,he,Du hn];rfl,b,hb,?_⟩;unfold Addr.add;split<;>simp_all
  .cases h
 .cases h
def zM{t e:TypeId}{len n:Nat}(ht:P.underlying t=some (.array len e))(hn:BQ P e=some n){p u:Aa}{x:Value}(hx:BH γ p x){k:IntKind}{i:Int}{j:Nat}(hj:LN i len=some j)(h:VV p (j*n)=some u):
  ∃v,(Instr.indexAt t x (.int k i)).run P w= .ok v w/\BH γ u v:=by
 have IN:P.underlying t=some (.array (P.arrayLen t) (P.elem t)):=by simp[Program.elem,Program.arrayLen,ht]
 have he:P.elem t=e:=by simp[Program.elem,ht]
 have hl:P.arrayLen t=len:=by simp[Program.arrayLen,ht]
 obtain⟨a,rfl,hu⟩:=vY hx h;obtain⟨d,c,b⟩:=Q4 hj;subst b;exact⟨_,by rw[run_indexAt_array w t _ _ _ IN,hl,Ag ⟨d,c⟩,he,Du hn];rfl,hu⟩
def wk{t ty:TypeId}{isStr:Bool}(ht:if isStr=true then P.underlying t=some .string else∃e,P.underlying t=some (.slice e)){ts:Array TypeId}(aX:ts[0]?=some t){s u:Aa}{x:Value}(hx:BH γ s x)(h:lenOf isStr s=some u):
  ∃v,(Builtin.len_ ts ty #[x]).run P w= .ok v w/\BH γ u v:=by
 cases isStr with
 |true=>
  replace ht:P.underlying t=some .string:=ht;unfold lenOf at h;split at h<;>first|cases h;done|skip
  simp only[BE] at h;cases h;rw[NW hx];refine⟨_,by simp[Builtin.len_,aX,run_underlying ht];rfl,rfl⟩
 |false=>
  obtain⟨e,ht⟩:∃e,P.underlying t=some (.slice e):=ht;unfold lenOf at h;split at h;.cases h;obtain⟨c,cap,rfl,_⟩:=hx;exact⟨_,by simp[Builtin.len_,aX,run_underlying ht];rfl,rfl⟩
  .cases h;obtain⟨b,cap,_,rfl,_⟩:=hx;exact⟨_,by simp[Builtin.len_,aX,run_underlying ht];rfl,rfl⟩
  .cases h;rw[show x= .slice none 0 0 from hx];exact⟨_,by simp[Builtin.len_,aX,run_underlying ht];rfl,rfl⟩
  .cases h;obtain⟨b,rfl⟩:=hx;exact⟨_,by simp[Builtin.len_,aX,run_underlying ht];rfl,rfl⟩
  .cases h
  .cases h
def wm{vs:List Aa}{x:Value}(hx:BH γ (.tuple vs) x){i:Nat}{u:Aa}(h:vs[i]?=some u):∃v,(Instr.extract x i).run P w= .ok v w/\BH γ u v:=by
 obtain⟨us,rfl,hr⟩:=hx;obtain⟨v,hv,q⟩:=hr.get h;exact⟨v,by
  have:us[i]?=some v:=by simpa using hv
  simp[Instr.extract,this],q⟩
end
end Go.Am
end
section
namespace Go.Am
open Go
section
variable{P:Program}{γ:Gh}{w:World}
def NX{n:Int}{top j:Nat}(h:En n top=some j):0<=n/\n<=top/\n.toNat=j:=by
 unfold En at h;split at h;.rename_i hc;cases h;exact⟨hc.1,hc.2,rfl⟩
 .cases h
def Km{lo hi:Option Value}{as:List Aa}{len cap l h:Nat}{isSlice:Bool}(hb:Dx lo.isSome hi.isSome len as=some (l,h))(hr:AX γ as (lo.toList++hi.toList))(hc:len<=cap):
  (Instr.sliceBounds isSlice len cap lo hi none).run P w= .ok (l,h,cap) w/\l<=h/\h<=len:=by
 cases lo<;>cases hi<;>simp only[Option.isSome,Dx] at hb
 .split at hb;.cases hb;exact⟨by simp[Instr.sliceBounds],Bc _,Ab _⟩
  .cases hb
 .rename_i hv;split at hb
  .rename_i k h';cases b:En h' len with
   |none=>rw[b] at hb;cases hb
   |some j=>rw[b] at hb;cases hb;obtain⟨f,g,d⟩:=NX b;obtain⟨_,e,hx⟩:=hr.one;cases e;rw[Eh hx];refine⟨?_,Bc _,Ac⟩;have:h'<=(cap:Int):=Ac;simp[Instr.sliceBounds,run_sliceBound,f,this,d]
  .cases hb
 .rename_i p;split at hb
  .rename_i k l';cases b:En l' len with
   |none=>rw[b] at hb;cases hb
   |some j=>rw[b] at hb;cases hb;obtain⟨f,g,d⟩:=NX b;obtain⟨_,e,hx⟩:=hr.one;cases e;rw[Eh hx];refine⟨?_,Ac,Ab _⟩;simp[Instr.sliceBounds,run_sliceBound,f,g,d]
  .cases hb
 .rename_i p hv;split at hb
  .rename_i k l' k' h';cases b:En h' len with
   |none=>rw[b] at hb;cases hb
   |some j=>
    rw[b] at hb;simp only[Cd] at hb;cases c:En l' j with
    |none=>rw[c] at hb;cases hb
    |some i=>rw[c] at hb;cases hb;obtain⟨f,g,d⟩:=NX b;obtain⟨o,n,m⟩:=NX c;obtain⟨_,_,e,hx,hy⟩:=hr.K9;cases e;rw[Eh hx,Eh hy];refine⟨?_,Ac,Ac⟩;have:h'<=(cap:Int):=Ac;simp[Instr.sliceBounds,run_sliceBound,f,this,o,d,m,n]
  .cases hb
def EL.slice{Av:List (List Aa)}{z b o:Nat}(h:EL γ Av z b o)(l k:Nat):EL γ ((Av.take k).drop l) z b (o+l*z):=by
 refine EL.GD λi r hi=>?_;rw[Cn,Cg] at hi;split at hi;.obtain⟨p,q⟩:=h.get hi;exact⟨p,by rw[show o+l*z+i*z=o+(l+i)*z by rw[BC];omega];exact q⟩
 .cases hi
def wo{t:TypeId}{isStr:Bool}{size:Nat}(ht:if isStr=true then P.underlying t=some .string else∃e,P.underlying t=some (.slice e)/\BQ P e=some size){s u:Aa}{x:Value}(hx:BH γ s x){as:List Aa}{lo hi:Option Value}
  (hr:AX γ as (lo.toList++hi.toList)) (h:Im size isStr lo.isSome hi.isSome s as=some u):
  ∃v,(Instr.sliceAt t x lo hi none).run P w= .ok v w/\BH γ u v:=by
 unfold Im at h;split at h
 .split at h
  .rename_i s Qo;subst Qo;replace ht:P.underlying t=some .string:=ht;cases hb:Dx lo.isSome hi.isSome s.length as with
   |none=>rw[hb] at h;cases h
   |some f=>
    obtain⟨l,k⟩:=f;rw[hb] at h;cases h;obtain⟨c,i,g⟩:=Km (P:=P) (w:=w) (isSlice:=false) hb hr (Ab _);rw[NW hx,run_sliceAt_string w t _ _ _ _ ht];refine⟨.string ((⟨⟨s⟩⟩:ByteArray).extract l k),?_,?_⟩;.have e:(⟨⟨s⟩⟩:ByteArray).size=s.length:=rfl;simp only[Instr.slice,Sem.run_bind,run_underlying ht,Result.andThen_ok];simp only[e,c,Option.isSome,Ch,DR,Sem.run_bind,Sem.run_pure,Result.andThen_ok]
    .show Value.string _=Value.string _;congr 1
     apply ByteArray.ext;apply Hi;simp[ByteArray.data_extract,Hu,List.drop_take]
  .cases h
 .rename_i z Av;split at h
  .rename_i hc;obtain⟨rfl,rfl⟩:=hc;obtain⟨e,ht,hn⟩:∃e,P.underlying t=some (.slice e)/\BQ P e=some z:=ht;have IN:P.underlying t=some (.slice (P.elem t)):=by simp[Program.elem,ht]
   have he:P.elem t=e:=by simp[Program.elem,ht]
   obtain⟨d,cap,rfl,hc,hsp,hm⟩:=hx;cases hb:Dx lo.isSome hi.isSome Av.length as with
   |none=>rw[hb] at h;cases h
   |some f=>
    obtain⟨l,k⟩:=f;rw[hb] at h;cases h;obtain⟨c,i,g⟩:=Km (P:=P) (w:=w) (isSlice:=true) hb hr hc;rw[run_sliceAt_slice w t _ _ _ _ IN,run_slice_any w t _ _ _ IN,c,he,Result.andThen_ok,Du hn];refine⟨_,rfl,?_⟩;show BH γ (.sl z ((Av.take k).drop l)) (.slice (if cap=l then some d else Option.map (λq:Addr=>q.add (l*z)) (some d)) (k-l) (cap-l));have hlen:((Av.take k).drop l).length=k-l:=Ek;by_cases hcl:cap=l;.have:(Av.take k).drop l=[]:=Cy Ac;rw[this];simp only[hcl,BE];exact⟨d,l-l,Ek,Ax,.inr Ac,trivial⟩
    .rw[Af hcl];have pY:d=⟨d.block,d.off,none⟩:=by
      rcases hsp with hsp|hsp
      .cases d;simp_all
      .omega
     generalize d.block=b at*;generalize d.off=o at*;subst pY;refine⟨⟨b,o+l*z,none⟩,cap-l,?_,Ac,.inl rfl,hm.slice l k⟩;rw[hlen];simp only[BJ];unfold Addr.add;split<;>simp_all
  .cases h
 .rename_i id off n z;split at h
  .rename_i hc;obtain⟨rfl,rfl⟩:=hc;obtain⟨e,ht,hn⟩:∃e,P.underlying t=some (.slice e)/\BQ P e=some z:=ht;have IN:P.underlying t=some (.slice (P.elem t)):=by simp[Program.elem,ht]
   have he:P.elem t=e:=by simp[Program.elem,ht]
   obtain⟨b,cap,j,rfl,hc,hz,K8⟩:=hx;cases hb:Dx lo.isSome hi.isSome n as with
   |none=>rw[hb] at h;cases h
   |some f=>
    obtain⟨l,k⟩:=f;rw[hb] at h;simp only[Cd] at h;split at h
    .rename_i vZ;cases h;obtain⟨c,i,g⟩:=Km (P:=P) (w:=w) (isSlice:=true) hb hr hc;rw[run_sliceAt_slice w t _ _ _ _ IN,run_slice_any w t _ _ _ IN,c,he,Result.andThen_ok,Du hn];refine⟨_,rfl,b,cap-l,j,?_,Ac,⟨hz.1,Bn (Nat.sub_le _ _) hz.2⟩,?_⟩;.show Value.slice (if cap=l then some ⟨b,off,none⟩ else Option.map (λq:Addr=>q.add (l*z)) (some ⟨b,off,none⟩)) (k-l) (cap-l)=_;rw[Af Ac];simp only[BJ];unfold Addr.add;split<;>simp_all
     .rw[K8,Rr,<-BC,aGl Ac]
    .rename_i vZ;cases h;obtain⟨c,i,g⟩:=Km (P:=P) (w:=w) (isSlice:=true) hb hr hc;rw[run_sliceAt_slice w t _ _ _ _ IN,run_slice_any w t _ _ _ IN,c,he,Result.andThen_ok,Du hn];have Zq:k-l=0:=Ac;by_cases hcl:cap=l;.refine⟨_,rfl,⟨b,off,none⟩,cap-l,?_,Ax,.inl rfl,trivial⟩;show Value.slice (if cap=l then some ⟨b,off,none⟩ else Option.map (λq:Addr=>q.add (l*z)) (some ⟨b,off,none⟩)) (k-l) (cap-l)=_;rw[Ag hcl,Zq];rfl
     .refine⟨_,rfl,(Addr.mk b off none).add (l*z),cap-l,?_,Ax,.inl ?_,trivial⟩;.show Value.slice (if cap=l then some ⟨b,off,none⟩ else Option.map (λq:Addr=>q.add (l*z)) (some ⟨b,off,none⟩)) (k-l) (cap-l)=_;rw[Af hcl,Zq];rfl
      .unfold Addr.add;split<;>simp_all
  .cases h
 .split at h;.cases h
  .rename_i Qo;have Qo:isStr=false:=by simpa using Qo
   subst Qo;obtain⟨e,ht,hn⟩:∃e,P.underlying t=some (.slice e)/\BQ P e=some size:=ht;have IN:P.underlying t=some (.slice (P.elem t)):=by simp[Program.elem,ht]
   have he:P.elem t=e:=by simp[Program.elem,ht]
   rw[show x= .slice none 0 0 from hx];cases hb:Dx lo.isSome hi.isSome 0 as with
   |none=>rw[hb] at h;cases h
   |some f=>obtain⟨l,k⟩:=f;rw[hb] at h;cases h;obtain⟨c,i,g⟩:=Km (P:=P) (w:=w) (isSlice:=true) hb hr (Ab _);rw[run_sliceAt_slice w t _ _ _ _ IN,run_slice_any w t _ _ _ IN,c,he,Result.andThen_ok,Du hn];refine⟨_,rfl,?_⟩;have:l=0:=Ac;subst this;have:k=0:=Ac;subst this;rfl
 .cases h
end
end Go.Am
end
section
namespace Go.Am
open Go
section
variable{P:Program}{γ:Gh}{w:World}
def GZ{a:Aa}{v:Value}(h:BH γ a v)(hn:0<a.cells.length):AX γ a.cells v.cells.toList/\∀u∈v.cells.toList,u.oneCell'=true:=by
 cases a with
 |agg cs=>obtain⟨us,rfl,p,q⟩:=h;exact⟨p,q⟩
 |tuple vs=>exact absurd hn (by simp[Aa.cells])
 |bool b=>rw[show v=_ from h];exact⟨⟨_,[],rfl,rfl,rfl⟩,Q5⟩
 |int k n=>rw[show v=_ from h];exact⟨⟨_,[],rfl,rfl,rfl⟩,Q5⟩
 |str s=>rw[show v=_ from h];exact⟨⟨_,[],rfl,rfl,rfl⟩,Q5⟩
 |slnil=>rw[show v=_ from h];exact⟨⟨_,[],rfl,rfl,rfl⟩,Q5⟩
 |EI z=>have h0:=h;obtain⟨b,rfl⟩:=h;exact⟨⟨_,[],rfl,h0,rfl⟩,Q5⟩
 |nilFunc=>rw[show v=_ from h];exact⟨⟨_,[],rfl,rfl,rfl⟩,Q5⟩
 |nilIface=>rw[show v=_ from h];exact⟨⟨_,[],rfl,rfl,rfl⟩,Q5⟩
 |ptr p=>
  have h0:=h;cases p with
  |none=>rw[show v=_ from h];exact⟨⟨_,[],rfl,rfl,rfl⟩,Q5⟩
  |some p=>obtain⟨i,o⟩:=p;obtain⟨b,_,rfl⟩:=h;exact⟨⟨_,[],rfl,h0,rfl⟩,Q5⟩
 |Cu cs=>have h0:=h;obtain⟨b,o,rfl,_⟩:=h;exact⟨⟨_,[],rfl,h0,rfl⟩,Q5⟩
 |sl z Av=>have h0:=h;obtain⟨d,cap,rfl,_⟩:=h;exact⟨⟨_,[],rfl,h0,rfl⟩,Q5⟩
 |CT id off len z=>have h0:=h;obtain⟨b,cap,_,rfl,_⟩:=h;exact⟨⟨_,[],rfl,h0,rfl⟩,Q5⟩
 |map m=>
  have h0:=h;cases m with
  |none=>rw[show v=_ from h];exact⟨⟨_,[],rfl,rfl,rfl⟩,Q5⟩
  |some id=>obtain⟨b,_,rfl⟩:=h;exact⟨⟨_,[],rfl,h0,rfl⟩,Q5⟩
 |func fn f c=>have h0:=h;obtain⟨fs,cs,rfl,_⟩:=h;exact⟨⟨_,[],rfl,h0,rfl⟩,Q5⟩
 |iface t a=>have h0:=h;obtain⟨u,rfl,_⟩:=h;exact⟨⟨_,[],rfl,h0,rfl⟩,Q5⟩
def NY:∀(vs:List Value) (off j:Nat) (cells:Array Value),off+j+vs.length<=cells.size->
  (vs.zipIdx j).foldl (λcs (c,i)=>cs.setIfInBounds (off+i) c) cells=(cells.toList.take (off+j)++vs++cells.toList.drop (off+j+vs.length)).toArray
 |[],off,j,cells,h=>Ax
 |v::vs,off,j,cells,h=>by
  simp only[vB,fk];rw[NY vs off (j+1) _ (by simp at h⊢;omega)];simp only[AG] at h;have hk:off+j<cells.toList.length:=Ek;have e0:(cells.setIfInBounds (off+j) v).toList=cells.toList.set (off+j) v:=Ax;have d:(cells.toList.set (off+j) v).take (off+j+1)=cells.toList.take (off+j)++[v]:=by rw[List.take_add_one,Za (Ab _),AD hk];rfl
  have b:(cells.toList.set (off+j) v).drop (off+j+1+vs.length)=cells.toList.drop (off+j+1+vs.length):=aGm Ac;rw[e0,(Ac:off+(j+1)=off+j+1),d,b];rw[(Ek:off+j+(v::vs).length=off+j+1+vs.length)];simp
def Wg{place:Nat->Option (Nat×Nat)}:∀{places:List (Nat×Nat)} {as:List Aa} {parts:List (Nat×Value)} {cs:List Aa} {us:Array Value} {GB:List Aa},Bj cs (places.zip as)=some GB->places.length=as.length->
  parts.map (λp=>place p.1)=places.map some->AX γ as (parts.map (·.2))->AX γ cs us.toList->(∀u∈us.toList,u.oneCell'=true)->
  ∃Dq,Instr.fill place us parts=some Dq/\AX γ GB Dq.toList/\∀u∈Dq.toList,u.oneCell'=true
 |[],as,parts,cs,us,GB,h,hl,hp,ha,hr,h1=>by
  have:parts=[]:=by simpa using hp
  subst this;simp only[List.zip_nil_left,Bj] at h;cases h;exact⟨us,rfl,hr,h1⟩
 |(off,size)::places,[],parts,cs,us,GB,h,hl,hp,ha,hr,h1=>by simp at hl
 |(off,size)::places,a::as,[],cs,us,GB,h,hl,hp,ha,hr,h1=>by simp at hp
 |(off,size)::places,a::as,(i,v)::parts,cs,us,GB,h,hl,hp,ha,hr,h1=>by
  simp only[aJN,Bj] at h;split at h
  .rename_i hc;obtain⟨n,m,l⟩:=hc;simp only[A9,EJ] at hp;obtain⟨_,_,e,vt,ģ⟩:=ha.LS;simp only[A9,EJ] at e;obtain⟨k,j⟩:=e;subst k;subst j;obtain⟨b,f⟩:=GZ vt Ac;have K8:v.cells.size=size:=by have:=b.length;simp at this;omega
   have Zk:us.size=cs.length:=by have:=hr.length;simpa using this
   have hf:=NY v.cells.toList off 0 us (by simp[K8];omega);obtain⟨Dq,d,r2,c⟩:=Wg (place:=place) (us:=(us.toList.take off++v.cells.toList++us.toList.drop (off+size)).toArray) h (by simpa using hl) hp.2 ģ
    (by simpa using((hr.take off).append b).append (hr.drop (off+size)))
    (λu hu=>by
     simp only[Aq] at hu;rcases hu with(hu|hu)|hu
     .exact h1 u (A0 hu)
     .exact f u hu
     .exact h1 u (Bu hu))
   refine⟨Dq,?_,r2,c⟩;rw[Instr.fill];simp only[hp.1];rw[Af (by simp[K8];omega)];rw[<-d];congr 1
   have g:v.cells.toList.length=size:=by simpa using K8
   rw[<-aJO,aGn,hf];simp[g]
  .cases h
def YF{v:Value}{a:Aa}(h:KA v=some a):AX γ a.cells v.cells.toList/\∀u∈v.cells.toList,u.oneCell'=true:=by
 have hr:=E9 (γ:=γ) h;unfold KA at h;split at h
 .rename_i cs;cases hs:LF cs.toList with
  |none=>rw[hs] at h;cases h
  |some as=>rw[hs] at h;cases h;exact MQ hs
 .refine GZ hr ?_;unfold O0 at h;split at h<;>first|(cases h;simp[Aa.cells];done)|skip
  .split at h;.cases h;simp[Aa.cells]
   .cases h
  .cases h
def OC{t:TypeId}{fs:Array Field}(hu:P.underlying t=some (.struct fs)){place:Nat->Option (Nat×Nat)}(v8:∀(i:Nat) (f:Field) (n:Nat),fs[i]?=some f->BQ P f.type=some n->place i=some (f.offset,n)):
  ∀{parts:List (Nat×Operand)} {ps:List (Nat×Nat)},JC P t parts=some ps->parts.map (λp=>place p.1)=ps.map some
 |[],ps,h=>by cases h;rfl
 |(i,x)::rest,ps,h=>by
  simp only[JC,hu] at h;split at h
  .rename_i f hf;split at h;.rename_i n r h1 h2;cases h;simp[v8 i f n hf h1,OC hu v8 h2]
   .cases h
  .cases h
def Pb{t e:TypeId}{len n:Nat}(hu:P.underlying t=some (.array len e))(hn:BQ P e=some n):
  ∀{parts:List (Nat×Operand)} {ps:List (Nat×Nat)},JC P t parts=some ps->parts.map (λp=>some (p.1*n,n))=ps.map some
 |[],ps,h=>by cases h;rfl
 |(i,x)::rest,ps,h=>by
  simp only[JC,hu] at h;split at h
  .split at h;.rename_i n' r h1 h2;cases h;rw[hn] at h1;cases h1;simp[Pb hu hn h2]
   .cases h
  .cases h
def T1:∀(fs:List Field),(fs.all λf=>(BQ P f.type).isSome)=true->∃places,fs.mapM (λf=>(P.info? f.type).map λi=>(f.offset,i.size))=some places/\
  ∀(i:Nat) (f:Field) (n:Nat),fs[i]?=some f->BQ P f.type=some n->places[i]?=some (f.offset,n)
 |[],_=>⟨[],rfl,Ax⟩
 |f::fs,h=>by
  simp only[aM,A7] at h;obtain⟨rest,h1,h2⟩:=T1 fs h.2;cases hi:P.info? f.type with
  |none=>simp[BQ,hi] at h
  |some b=>
   refine⟨(f.offset,b.size)::rest,by simp[hi,h1],λi g n hg hn=>?_⟩;cases i with
   |zero=>simp at hg;subst hg;simp[BQ,hi] at hn;simp[hn]
   |succ i=>simpa using h2 i g n (by simpa using hg) hn
def zN{t:TypeId}{z:Aa}{parts:Array (Nat×Operand)}{ps:List (Nat×Nat)}{O:Operand->Value}(hz:GC P t=some z)(hp:JC P t parts.toList=some ps)(hb:U9 P t=true){as:List Aa}
  (ha:AX γ as ((parts.toList.map (·.2)).map O)) {u:Aa} (h:Az (.C2 z.cells ps) as=some u):∃v,(Instr.build t (parts.map λ(i,x)=>(i,O x))).run P w= .ok v w/\BH γ u v:=by
 simp only[Az] at h;split at h
 .rename_i hl;cases hf:Bj z.cells (ps.zip as) with
  |none=>rw[hf] at h;cases h
  |some cs=>
   rw[hf] at h;cases h;unfold GC at hz;cases hi:P.info? t with
   |none=>rw[hi] at hz;cases hz
   |some d=>
    cases YC:d.zero with
    |none=>rw[hi] at hz;simp[YC] at hz
    |some k=>
     rw[hi] at hz;simp only[Cd,YC] at hz;obtain⟨c,z2⟩:=YF (γ:=γ) hz;have hparts:((parts.map λ(i,x)=>(i,O x)).toList.map (·.2))=(parts.toList.map (·.2)).map O:=Ax;unfold U9 at hb;split at hb
     .rename_i fs hu;obtain⟨places,j,g⟩:=T1 fs.toList hb;obtain⟨Dq,f1,f2,f3⟩:=Wg (place:=λi=>places.toArray[i]?) (parts:=(parts.map λ(i,x)=>(i,O x)).toList) hf hl
       (by have:=OC hu (place:=λi=>places.toArray[i]?) (λi f n h1 h2=>by simpa using g i f n (by simpa using h1) h2) hp;rw[<-this];simp) (by rw[hparts];exact ha) c z2
      exact⟨.agg Dq,run_build w t _ _ (by unfold Program.built;simp only[hi,hu,YC,j];exact f1),Dq,rfl,f2,f3⟩
     .rename_i len e hu;cases he:P.info? e with
      |none=>simp[BQ,he] at hb
      |some b=>
       obtain⟨Dq,f1,f2,f3⟩:=Wg (place:=λi=>some (i*b.size,b.size)) (parts:=(parts.map λ(i,x)=>(i,O x)).toList) hf hl
        (by have:=Pb hu (n:=b.size) (by simp[BQ,he]) hp;rw[<-this];simp) (by rw[hparts];exact ha) c z2
       exact⟨.agg Dq,run_build w t _ _ (by unfold Program.built;simp only[hi,hu,YC,he];exact f1),Dq,rfl,f2,f3⟩
     .cases hb
 .cases h
end
end Go.Am
end
section
namespace Go.Am
open Go
def Rz.still:Rz->Bool
 | .append _ _| .DX _| .EI _| .s2b| .YB=>false
 |_=>true
def Ha{o:kM}{dst:Option Nat}{x:Option (List Aa)}{r:Eu}(h:Tc o dst x=some r):∃args,x=some args/\r= .mem o args dst:=by
 unfold Tc at h;split at h;.cases h;exact⟨_,rfl,rfl⟩
 .cases h
def KP{o:kM}{dst:Option Nat}{x:Option (List Aa)}{p:Rz}{args:List Aa}{d:Option Nat}{BI:Bool}{b:Option (Nat×Aa)}:¬Tc o dst x=some (.op p args d BI b):=λh=>by obtain⟨_,_,e⟩:=Ha h;cases e
def DG{p:Rz}{dst:Option Nat}{x:Option (List Aa)}{r:Eu}(h:Tb p dst x=some r):∃args,x=some args/\r= .op p args dst false none:=by
 cases x with
 |none=>cases h
 |some args=>cases h;exact⟨args,rfl,rfl⟩
section
variable{C:Fx}{γ0 γ:Gh}{w0 w:World}{Z:Nat->Nat}{U:BF}{h:Ai}{a:Act}{fid:FuncId}{ops:List Oper}
def HN(P:Program)(γ:Gh)(a:Act)(o:Oper)(w:World)(p:Rz)(args:List Aa):Prop:=
 ∀u,Az p args=some u->∃v,(execOp a.eval o).run P w= .ok (.value v) w/\BH γ u v
def EF{P:Program}{s:Sem Value}{v:Value}(hs:s.run P w= .ok v w):(do pure (Next.value (<-s)):Sem Next).run P w= .ok (.value v) w:=by simp[hs]
def pZ{o:Oper}{c x y:Operand}(ho:o.op= .pick c x y)(hr:CW C γ0 w0 γ Z U h a w){args:List Aa}(ha:Bq C U [c,x,y]=some args):HN C.P γ a o w .pick args:=by
 intro u hu;simp only[Az] at hu;split at hu;.rename_i b p q;cases hu;obtain⟨_,_,_,e,h1,h2,d⟩:=(DF hr ha).Zp;simp only[A9,Dc,EJ] at e;obtain⟨i,g,f,_⟩:=e;rw[<-i] at h1;rw[<-g] at h2;rw[<-f] at d;refine⟨if b then a.eval x else a.eval y,?_,by cases b<;>simpa⟩;simp[execOp,ho,RM h1,asBool]
 .cases hu
def zO{o:Oper}{op:BinOp}{t:TypeId}{x y:Operand}{p:Rz}(hp:PY C.P op t=some p)(he:execOp a.eval o=(do pure (Next.value (<-(do eqGuard op t x y (a.eval x) (a.eval y);binOp op t (a.eval x) (a.eval y):Sem Value)))))
  (hr:CW C γ0 w0 γ Z U h a w) {args:List Aa} (ha:Bq C U [x,y]=some args):HN C.P γ a o w p args:=by
 intro u hu;obtain⟨v,c,b⟩:=lA (w:=w) hp x y (DF hr ha) hu;exact⟨v,by rw[he];exact EF c,b⟩
def Gm(hr:CW C γ0 w0 γ Z U h a w){x:Operand}{args:List Aa}(ha:Bq C U [x]=some args):∃u,args=[u]/\BH γ u (a.eval x):=by
 have h1:=DF hr ha;cases args with
 |nil=>cases h1
 |cons u us=>
  obtain⟨_,_,e,h2,b⟩:=h1.LS;cases e;cases us with
  |nil=>exact⟨u,rfl,h2⟩
  |cons _ _=>obtain⟨_,_,e,_⟩:=b.LS;cases e
def EU(hr:CW C γ0 w0 γ Z U h a w){x y:Operand}{args:List Aa}(ha:Bq C U [x,y]=some args):∃u v,args=[u,v]/\BH γ u (a.eval x)/\BH γ v (a.eval y):=by
 have h1:=DF hr ha;cases args with
 |nil=>cases h1
 |cons u us=>
  obtain⟨_,_,e,h2,b⟩:=h1.LS;cases e;cases us with
  |nil=>cases b
  |cons v vs=>
   obtain⟨_,_,e,d,c⟩:=b.LS;cases e;cases vs with
   |nil=>exact⟨u,v,rfl,h2,d⟩
   |cons _ _=>obtain⟨_,_,e,_⟩:=c.LS;cases e
def jm{o:Oper}{op:UnOp}{x:Operand}(he:execOp a.eval o=(do pure (Next.value (<-Op.unary op (a.eval x)))))
  (hr:CW C γ0 w0 γ Z U h a w) {args:List Aa} (ha:Bq C U [x]=some args):HN C.P γ a o w (.un op) args:=by
 intro u hu;obtain⟨v,rfl,h1⟩:=Gm hr ha;simp only[Az] at hu;obtain⟨r,c,b⟩:=Ģ (P:=C.P) (w:=w) h1 hu;exact⟨r,by rw[he];exact EF c,b⟩
def p8{o:Oper}{src dst:TypeId}{k l:IntKind}{x:Operand}(hs:C.P.underlying src=some (.int l))(hd:C.P.underlying dst=some (.int k))(he:execOp a.eval o=(do pure (Next.value (<-convert src dst (a.eval x)))))
  (hr:CW C γ0 w0 γ Z U h a w) {args:List Aa} (ha:Bq C U [x]=some args):HN C.P γ a o w (.conv k) args:=by
 intro u hu;obtain⟨v,rfl,h1⟩:=Gm hr ha;simp only[Az] at hu;split at hu;.rename_i e;cases e;cases hu;rw[Eh h1] at he;exact⟨_,by rw[he];exact EF (aV hs hd),rfl⟩
 .cases hu
def zP{o:Oper}{src dst:TypeId}{l:IntKind}{x:Operand}(hs:C.P.underlying src=some (.int l))(hd:C.P.underlying dst=some .string)(he:execOp a.eval o=(do pure (Next.value (<-convert src dst (a.eval x)))))
  (hr:CW C γ0 w0 γ Z U h a w) {args:List Aa} (ha:Bq C U [x]=some args):HN C.P γ a o w .i2s args:=by
 intro u hu;obtain⟨v,rfl,h1⟩:=Gm hr ha;simp only[Az] at hu;split at hu;.rename_i e;cases e;cases hu;rw[Eh h1] at he;exact⟨_,by rw[he];exact EF (aW hs hd),rfl⟩
 .cases hu
def lC{o:Oper}{t:TypeId}{x:Operand}{f off:Nat}{b:Option Nat}(hf:H5 C.P t f=some (off,b))(he:execOp a.eval o=(do pure (Next.value (<-Instr.field t (a.eval x) f))))
  (hr:CW C γ0 w0 γ Z U h a w) {args:List Aa} (ha:Bq C U [x]=some args):HN C.P γ a o w (.part off b) args:=by
 intro u hu;obtain⟨v,rfl,h1⟩:=Gm hr ha;simp only[Az] at hu;split at hu;.rename_i e;cases e;obtain⟨r,d,c⟩:=zL (w:=w) hf h1 hu;exact⟨r,by rw[he];exact EF d,c⟩
 .cases hu
def UJ{o:Oper}{t:TypeId}{x:Operand}{f off:Nat}{b:Option Nat}(hf:H5 C.P t f=some (off,b))(he:execOp a.eval o=(do pure (Next.value (<-Instr.fieldAt t (a.eval x) f))))
  (hr:CW C γ0 w0 γ Z U h a w) {args:List Aa} (ha:Bq C U [x]=some args):HN C.P γ a o w (.KI off) args:=by
 intro u hu;obtain⟨v,rfl,h1⟩:=Gm hr ha;simp only[Az] at hu;obtain⟨r,d,c⟩:=lB (w:=w) hf h1 hu;exact⟨r,by rw[he];exact EF d,c⟩
def zQ{o:Oper}{x:Operand}{i:Nat}(he:execOp a.eval o=(do pure (Next.value (<-Instr.extract (a.eval x) i))))
  (hr:CW C γ0 w0 γ Z U h a w) {args:List Aa} (ha:Bq C U [x]=some args):HN C.P γ a o w (.ext i) args:=by
 intro u hu;obtain⟨v,rfl,h1⟩:=Gm hr ha;simp only[Az] at hu;split at hu;.rename_i e;cases e;obtain⟨r,c,b⟩:=wm (P:=C.P) (w:=w) h1 hu;exact⟨r,by rw[he];exact EF c,b⟩
 .cases hu
def UK{o:Oper}{t:TypeId}{x y:Operand}(ht:C.P.underlying t=some .string)(he:execOp a.eval o=(do pure (Next.value (<-Instr.index t (a.eval x) (a.eval y)))))
  (hr:CW C γ0 w0 γ Z U h a w) {args:List Aa} (ha:Bq C U [x,y]=some args):HN C.P γ a o w .YA args:=by
 intro u hu;obtain⟨p,q,rfl,h1,h2⟩:=EU hr ha;simp only[Az] at hu;split at hu
 .rename_i e;cases e;split at hu
  .rename_i s k i h0;cases hb:s[i.toNat]? with
   |none=>rw[hb] at hu;cases hu
   |some b=>rw[hb] at hu;cases hu;rw[NW h1,Eh h2] at he;exact⟨_,by rw[he];exact EF (YE ht h0 hb),rfl⟩
  .cases hu
 .cases hu
def UL{o:Oper}{t e:TypeId}{len n:Nat}{b:Option Nat}{x y:Operand}(ht:C.P.underlying t=some (.array len e))(hn:BQ C.P e=some n)(o9:E5 C.P e=some b)(he:execOp a.eval o=(do pure (Next.value (<-Instr.index t (a.eval x) (a.eval y)))))
  (hr:CW C γ0 w0 γ Z U h a w) {args:List Aa} (ha:Bq C U [x,y]=some args):HN C.P γ a o w (.ė len n b) args:=by
 intro u hu;obtain⟨p,q,rfl,h1,h2⟩:=EU hr ha;simp only[Az] at hu;split at hu
 .rename_i e;cases e;rename_i cs k i;cases hb:LN i len with
  |none=>rw[hb] at hu;cases hu
  |some j=>rw[hb] at hu;simp only[Cd] at hu;rw[Eh h2] at he;obtain⟨r,d,c⟩:=YD (w:=w) (k:=k) ht hn o9 h1 hb hu;exact⟨r,by rw[he];exact EF d,c⟩
 .cases hu
def Wh{o:Oper}{t e:TypeId}{n:Nat}{x y:Operand}(ht:C.P.underlying t=some (.slice e))(hn:BQ C.P e=some n)(he:execOp a.eval o=(do pure (Next.value (<-Instr.indexAt t (a.eval x) (a.eval y)))))
  (hr:CW C γ0 w0 γ Z U h a w) {args:List Aa} (ha:Bq C U [x,y]=some args):HN C.P γ a o w (.FG n) args:=by
 intro u hu;obtain⟨p,q,rfl,h1,h2⟩:=EU hr ha;simp only[Az] at hu;split at hu;.rename_i e;cases e;rename_i k i;rw[Eh h2] at he;obtain⟨r,c,b⟩:=pX (w:=w) (k:=k) ht hn h1 hu;exact⟨r,by rw[he];exact EF c,b⟩
 .cases hu
def YG{o:Oper}{t e:TypeId}{len n:Nat}{x y:Operand}(ht:C.P.underlying t=some (.array len e))(hn:BQ C.P e=some n)(he:execOp a.eval o=(do pure (Next.value (<-Instr.indexAt t (a.eval x) (a.eval y)))))
  (hr:CW C γ0 w0 γ Z U h a w) {args:List Aa} (ha:Bq C U [x,y]=some args):HN C.P γ a o w (.TW len n) args:=by
 intro u hu;obtain⟨p,q,rfl,h1,h2⟩:=EU hr ha;simp only[Az] at hu;split at hu
 .rename_i e;cases e;rename_i k i;cases hb:LN i len with
  |none=>rw[hb] at hu;cases hu
  |some j=>rw[hb] at hu;simp only[Cd] at hu;rw[Eh h2] at he;obtain⟨r,c,b⟩:=zM (w:=w) (k:=k) ht hn h1 hb hu;exact⟨r,by rw[he];exact EF c,b⟩
 .cases hu
def T2{o:Oper}{t:TypeId}{x:Operand}{lo hi:Option Operand}{isStr:Bool}{size:Nat}(ht:if isStr=true then C.P.underlying t=some .string else∃e,C.P.underlying t=some (.slice e)/\BQ C.P e=some size)
  (he:execOp a.eval o=(do pure (Next.value (<-Instr.sliceAt t (a.eval x) (lo.map a.eval) (hi.map a.eval) none))))
  (hr:CW C γ0 w0 γ Z U h a w) {args:List Aa} (ha:Bq C U (x::(lo.toList++hi.toList))=some args):HN C.P γ a o w (.PU size isStr lo.isSome hi.isSome) args:=by
 intro u hu;have h1:=DF hr ha;cases args with
 |nil=>cases h1
 |cons s as=>obtain⟨_,_,e,h2,d⟩:=h1.LS;cases e;simp only[Az] at hu;obtain⟨r,c,b⟩:=wo (P:=C.P) (w:=w) (lo:=lo.map a.eval) (hi:=hi.map a.eval) ht h2 (by cases lo<;>cases hi<;>simpa using d) (by simpa using hu);exact⟨r,by rw[he];exact EF c,b⟩
def lD{o:Oper}{t:TypeId}{parts:Array (Nat×Operand)}{z:Aa}{ps:List (Nat×Nat)}(hz:GC C.P t=some z)(hp:JC C.P t parts.toList=some ps)(hb:U9 C.P t=true)
  (he:execOp a.eval o=(do pure (Next.value (<-Instr.build t (parts.map λ(i,x)=>(i,a.eval x))))))
  (hr:CW C γ0 w0 γ Z U h a w) {args:List Aa} (ha:Bq C U (parts.toList.map (·.2))=some args):HN C.P γ a o w (.C2 z.cells ps) args:=by
 intro u hu;obtain⟨r,c,b⟩:=zN (w:=w) hz hp hb (DF hr ha) hu;exact⟨r,by rw[he];exact EF c,b⟩
def aY{o:Oper}{x:Operand}(ho:o.op= .nilCheck x)(hr:CW C γ0 w0 γ Z U h a w){args:List Aa}(ha:Bq C U [x]=some args):HN C.P γ a o w .I6 args:=by
 intro u hu;obtain⟨v,rfl,h1⟩:=Gm hr ha;simp only[Az,kO] at hu;split at hu;.rename_i p;cases hu;obtain⟨i,k⟩:=p;obtain⟨b,hb,hv⟩:=h1;exact⟨_,by simp only[execOp,ho,hv];rfl,b,hb,rfl⟩
 .cases hu;obtain⟨b,k,hv,hm⟩:=h1;exact⟨_,by simp only[execOp,ho,hv];rfl,b,k,rfl,hm⟩
 .cases hu;obtain⟨fs,cs,hv,p,q⟩:=h1;exact⟨_,by simp only[execOp,ho,hv];rfl,fs,cs,rfl,p,q⟩
 .cases hu
def MR:∀{xs:List Operand} {us:List Aa},Bq C U xs=some us->us.length=xs.length
 |[],us,h=>by cases h;rfl
 |x::xs,us,h=>by
  unfold Bq at h;split at h;.rename_i u Dq h1 h2;cases h;simp[MR h2]
  .cases h
def NZ{P:Program}{o:Oper}{c:Call}{b:Builtin}{s:Sem Value}(ho:o.op= .call c)(hc:c.callee= .builtin b)(hs:builtin b c.argTypes o.type (c.args.map λ| .const _=>true|_=>false) (c.args.map a.eval)=(do pure (Next.value (<-s)))){v:Value}
  (hv:s.run P w= .ok v w):(execOp a.eval o).run P w= .ok (.value v) w:=by
 have:execOp a.eval o=(do pure (Next.value (<-s))):=by rw[<-hs];simp only[execOp,ho,resolve,hc];rfl
 rw[this];exact EF hv
def Zr{o:Oper}{c:Call}{t:TypeId}{isStr:Bool}(ho:o.op= .call c)(hc:c.callee= .builtin .len)(h0:c.argTypes[0]?=some t)(ht:if isStr=true then C.P.underlying t=some .string else∃e,C.P.underlying t=some (.slice e))
  (hr:CW C γ0 w0 γ Z U h a w) {args:List Aa} (ha:Bq C U c.args.toList=some args):HN C.P γ a o w (.len isStr) args:=by
 intro u hu;simp only[Az] at hu;split at hu
 .rename_i s;have hl:=MR ha;obtain⟨x,hx⟩:∃x,c.args.toList=[x]:=aA6.1 hl.symm;rw[hx] at ha;obtain⟨_,e,h1⟩:=Gm hr ha;cases e;obtain⟨r,d,b⟩:=wk (P:=C.P) (w:=w) (ty:=o.type) ht h0 h1 hu;have e:c.args.map a.eval=#[a.eval x]:=by apply Hi;simp[hx]
  exact⟨r,NZ ho hc (s:=Builtin.len_ c.argTypes o.type #[a.eval x]) (by rw[e];rfl) d,b⟩
 .cases hu
def RN{o:Oper}{c:Call}{isMax:Bool}(ho:o.op= .call c)(hc:c.callee= .builtin (if isMax then .max else .min))(hr:CW C γ0 w0 γ Z U h a w){args:List Aa}(ha:Bq C U c.args.toList=some args):HN C.P γ a o w (.Lc isMax) args:=by
 intro u hu;simp only[Az] at hu;split at hu
 .rename_i k p l q;split at hu
  .rename_i hk;subst hk;cases hu;have hl:=MR ha;obtain⟨x,y,hx⟩:∃x y,c.args.toList=[x,y]:=by
    cases hq:c.args.toList with
    |nil=>rw[hq] at hl;simp at hl
    |cons x xs=>cases xs with
     |nil=>rw[hq] at hl;simp at hl
     |cons y ys=>cases ys with
      |nil=>exact⟨x,y,rfl⟩
      |cons _ _=>rw[hq] at hl;simp at hl
   rw[hx] at ha;obtain⟨_,_,e,h1,h2⟩:=EU hr ha;cases e;have e:c.args.map a.eval=#[.int k p,.int k q]:=by apply Hi;simp[hx,Eh h1,Eh h2]
   cases isMax with
   |true=>exact⟨_,NZ ho hc (s:=Builtin.max_ c.argTypes o.type #[.int k p,.int k q]) (by rw[e];rfl) (by simp[Builtin.max_,Builtin.max2]),rfl⟩
   |false=>exact⟨_,NZ ho hc (s:=Builtin.min_ c.argTypes o.type #[.int k p,.int k q]) (by rw[e];rfl) (by simp[Builtin.min_,Builtin.min2]),rfl⟩
  .cases hu
 .cases hu
end
end Go.Am
end
section
namespace Go.Am
open Go
section
variable{C:Fx}{γ0 γ:Gh}{w0 w:World}{Z:Nat->Nat}{U:BF}{h:Ai}{a:Act}{fid:FuncId}{ops:List Oper}
def Ms{x:Operand}{d:Nat}{take:Bool}{r:Eu}(h:Kl C U x d take=some r):∃ws,r= .pure ws:=by
 unfold Kl at h;split at h;.cases h;exact⟨_,rfl⟩
 .cases h;exact⟨_,rfl⟩
 .split at h;.cases h;exact⟨_,rfl⟩
  .cases hc:H6 _ with
   |none=>rw[hc] at h;cases h
   |some s=>rw[hc] at h;cases h;exact⟨_,rfl⟩
 .cases hc:H6 _ with
  |none=>rw[hc] at h;cases h
  |some s=>rw[hc] at h;cases h;exact⟨_,rfl⟩
 .cases h
def Zs{t:TypeId}{v:Aa}{d:Nat}{p:Rz}{args:List Aa}{dst:Option Nat}{BI:Bool}{b:Option (Nat×Aa)}:TY C fid t v d≠some (.op p args dst BI b):=by
 unfold TY;intro h;split at h;.cases h
 .split at h;.cases h
  .split at h<;>cases h
def p9{t:TypeId}{x:Operand}{d:Nat}{take:Bool}{p:Rz}{args:List Aa}{dst:Option Nat}{BI:Bool}{b:Option (Nat×Aa)}:Ld C U t x d take≠some (.op p args dst BI b):=by
 unfold Ld;intro h;split at h;.cases h
 .split at h;.simp only at h;split at h<;>cases h
  .cases h
 .split at h<;>cases h
 .cases h
def lE{t:TypeId}{x y:Operand}{p:Rz}{args:List Aa}{dst:Option Nat}{BI:Bool}{b:Option (Nat×Aa)}:I1 C U t x y≠some (.op p args dst BI b):=by
 unfold I1;intro h;split at h;.cases h
 .split at h<;>cases h
 .cases h
def zR{o:Oper}{p:Rz}{args:List Aa}{dst:Option Nat}{BI:Bool}{j:Option (Nat×Aa)}(hc:FT C fid ops U o=some (.op p args dst BI j))(IM:p.still=true)(hr:CW C γ0 w0 γ Z U h a w):
  HN C.P γ a o w p args/\dst=o.dst/\BI=false/\j=none:=by
 unfold FT at hc
 split at hc
 .split at hc
  .obtain⟨ws,e⟩:=Ms hc;cases e
  .cases hc
 .split at hc
  .obtain⟨ws,e⟩:=Ms hc;cases e
  .cases hc
 .rename_i c x y ho
  split at hc
  .obtain⟨ws,e⟩:=Ms hc;cases e
  .obtain⟨ws,e⟩:=Ms hc;cases e
  .obtain⟨as,g,b⟩:=DG hc
   cases b
   exact⟨pZ ho hr g,rfl,rfl,rfl⟩
 .split at hc
  .split at hc
   .split at hc<;>cases hc
   .exact absurd hc Zs
  .cases hc
 .split at hc
  .exact absurd hc Zs
  .cases hc
 .rename_i t parts ho
  split at hc
  .rename_i z ps hz hp
   split at hc
   .rename_i hb
    obtain⟨as,g,b⟩:=DG hc
    cases b
    exact⟨lD hz hp hb (by simp[execOp,ho]) hr g,rfl,rfl,rfl⟩
   .cases hc
  .cases hc
 .split at hc
  .split at hc
   .split at hc
    .split at hc
     .cases hc;cases IM
     .cases hq:Bq C U _ with
      |none=>rw[hq] at hc;cases hc
      |some q=>rw[hq] at hc;cases hc;cases IM
    .cases hc
   .cases hc
  .cases hc
 .split at hc
  .exact absurd hc p9
  .cases hc
 .split at hc
  .exact absurd hc lE
  .cases hc
 .rename_i x ho
  split at hc
  .cases hc
  .cases hc
  .obtain⟨as,g,b⟩:=DG hc
   cases b
   exact⟨aY ho hr g,rfl,rfl,rfl⟩
 .rename_i op t x y k ho
  split at hc
  .rename_i q hq
   obtain⟨as,g,b⟩:=DG hc
   cases b
   exact⟨zO hq (by simp[execOp,ho]) hr g,rfl,rfl,rfl⟩
  .cases hc
 .rename_i op t x ho
  obtain⟨as,g,b⟩:=DG hc
  cases b
  exact⟨jm (by simp[execOp,ho]) hr g,rfl,rfl,rfl⟩
 .rename_i src aGs x ho
  split at hc
  .cases hq:EK C U x with
   |none=>rw[hq] at hc;cases hc
   |some q=>rw[hq] at hc;cases hc
  .split at hc
   .cases hq:EK C U x with
    |none=>rw[hq] at hc;cases hc
    |some q=>rw[hq] at hc;cases hc
   .obtain⟨as,g,b⟩:=DG hc
    cases b;cases IM
  .rename_i q RO j9 hq
   obtain⟨as,g,b⟩:=DG hc
   cases b
   refine⟨?_,rfl,rfl,rfl⟩
   unfold V4 at hq
   split at hq
   .rename_i hs hd
    cases hq
    exact p8 hs hd (by simp[execOp,ho]) hr g
   .rename_i hs hd
    cases hq
    exact zP hs hd (by simp[execOp,ho]) hr g
   .cases hq
   .split at hq
    .cases hq;cases IM
    .cases hq
   .split at hq
    .cases hq;cases IM
    .cases hq
   .cases hq
  .cases hc
 .split at hc
  .cases hc
  .cases hc
 .cases hc
 .split at hc
  .split at hc<;>cases hc
  .cases hc
 .split at hc
  .split at hc<;>cases hc
  .cases hc
 .split at hc
  .split at hc<;>cases hc
  .cases hc
 .split at hc
  .split at hc<;>cases hc
  .cases hc
 .split at hc
  .split at hc
   .exact absurd hc KP
   .cases hc
  .cases hc
 .split at hc
  .cases hc
  .exact absurd hc KP
  .cases hc
 .split at hc
  .split at hc<;>first|exact absurd hc KP|cases hc
  .cases hc
 .split at hc
  .exact absurd hc KP
  .cases hc
 .rename_i t x lo hi ho
  split at hc
  .rename_i ht
   obtain⟨as,g,b⟩:=DG hc
   cases b
   exact⟨T2 (isStr:=true) ht (by simp[execOp,ho]) hr g,rfl,rfl,rfl⟩
  .rename_i e ht
   split at hc
   .rename_i n hn
    split at hc
    .exact absurd hc KP
    .obtain⟨as,g,b⟩:=DG hc
     cases b
     exact⟨T2 (isStr:=false) ⟨e,ht,hn⟩ (by simp[execOp,ho]) hr g,rfl,rfl,rfl⟩
   .cases hc
  .cases hc
 .rename_i t x f ho
  split at hc
  .rename_i off l d hf hd
   split at hc
   .cases hc
   .cases hc
   .obtain⟨as,g,b⟩:=DG hc
    cases b
    exact⟨UJ hf (by simp[execOp,ho]) hr g,hd.symm,rfl,rfl⟩
  .cases hc
 .rename_i t x f ho
  split at hc
  .rename_i off l hf
   obtain⟨as,g,b⟩:=DG hc
   cases b
   exact⟨lC hf (by simp[execOp,ho]) hr g,rfl,rfl,rfl⟩
  .cases hc
 .rename_i t x i ho
  split at hc
  .rename_i e ht
   split at hc
   .rename_i n hn
    obtain⟨as,g,b⟩:=DG hc
    cases b
    exact⟨Wh ht hn (by simp[execOp,ho]) hr g,rfl,rfl,rfl⟩
   .cases hc
  .rename_i len e ht
   split at hc
   .rename_i n hn
    split at hc
    .cases hc
    .obtain⟨as,g,b⟩:=DG hc
     cases b
     exact⟨YG ht hn (by simp[execOp,ho]) hr g,rfl,rfl,rfl⟩
   .cases hc
  .cases hc
 .rename_i t x i ho
  split at hc
  .rename_i ht
   obtain⟨as,g,b⟩:=DG hc
   cases b
   exact⟨UK ht (by simp[execOp,ho]) hr g,rfl,rfl,rfl⟩
  .rename_i len e ht
   split at hc
   .rename_i n l hn o9
    obtain⟨as,g,b⟩:=DG hc
    cases b
    exact⟨UL ht hn o9 (by simp[execOp,ho]) hr g,rfl,rfl,rfl⟩
   .cases hc
  .cases hc
 .rename_i x i ho
  obtain⟨as,g,b⟩:=DG hc
  cases b
  exact⟨zQ (by simp[execOp,ho]) hr g,rfl,rfl,rfl⟩
 .rename_i c ho
  unfold QZ at hc
  split at hc
  .rename_i hcl
   split at hc
   .rename_i t h0
    split at hc
    .rename_i ht
     obtain⟨as,g,b⟩:=DG hc
     cases b
     exact⟨Zr (isStr:=true) ho hcl h0 ht hr g,rfl,rfl,rfl⟩
    .rename_i e ht
     obtain⟨as,g,b⟩:=DG hc
     cases b
     exact⟨Zr (isStr:=false) ho hcl h0 ⟨e,ht⟩ hr g,rfl,rfl,rfl⟩
    .cases hc
   .cases hc
  .split at hc
   .split at hc
    all_goals first
     |(cases hc;done)
     | (split at hc
        . split at hc
          . split at hc
            . split at hc
              . split at hc
                . cases hc
                . split at hc
                  . cases hc
                  . cases hc; cases IM
              . split at hc <;> cases hc
            . cases hc
          . cases hc
        . cases hc)
   .cases hc
  .split at hc
   .split at hc
    all_goals first
     |(cases hc;done)
     | (split at hc
        . exact absurd hc KP
        . cases hc)
   .cases hc
  .split at hc
   .split at hc
    .split at hc
     .exact absurd hc KP
     .cases hc
    .cases hc
   .cases hc
  .rename_i hcl
   split at hc
   .obtain⟨as,g,b⟩:=DG hc
    cases b
    exact⟨RN (isMax:=true) ho hcl hr g,rfl,rfl,rfl⟩
   .cases hc
  .rename_i hcl
   split at hc
   .obtain⟨as,g,b⟩:=DG hc
    cases b
    exact⟨RN (isMax:=false) ho hcl hr g,rfl,rfl,rfl⟩
   .cases hc
  .split at hc
   .split at hc
    .split at hc
     .exact absurd hc KP
     .cases hc
    .cases hc
   split at hc
   .cases hq:Bq C U c.args.toList with
    |none=>rw[hq] at hc;cases hc
    |some q=>
     rw[hq] at hc
     simp only[BJ,Bx] at hc
     split at hc<;>cases hc
   .cases hc
  .split at hc<;>cases hc
  .cases hc
 .cases hc
end
end Go.Am
end
