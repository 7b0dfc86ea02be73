/- Lemmas -/
import Derived.Test.YtjjnhgoknielgaaGreatDoorZ2
import Derived.Laws.Slices
set_option linter.all false
section
namespace Go.Am
open Go
section
variable{P:Program}{γ:Gh}{w:World}
def Tc{a:Bool}{v:Value}(h:BP γ (.bool a) v):v= .bool a:=h
def EK{k:IntKind}{a:Int}{v:Value}(h:BP γ (.int k a) v):v= .int k a:=h
def Pb{a:Ah}{v:Value}(h:BP γ (.str a) v):v= .string ⟨⟨a⟩⟩:=h
def A8.ň{us:List Value}(h:A8 γ [] us):us=[]:=h
def A8.M2{a:Aa}{l:List Aa}{us:List Value}(h:A8 γ (a::l) us):∃u DR,us=u::DR/\BP γ a u/\A8 γ l DR:=h
def A8.one{a:Aa}{us:List Value}(h:A8 γ [a] us):∃u,us=[u]/\BP γ a u:=by obtain⟨u,DR,rfl,h1,h2⟩:=h;rw[h2.ň];exact⟨u,rfl,h1⟩
def A8.MR{a b:Aa}{us:List Value}(h:A8 γ [a,b] us):∃u v,us=[u,v]/\BP γ a u/\BP γ b v:=by obtain⟨u,DR,rfl,h1,h2⟩:=h;obtain⟨v,rfl,h3⟩:=h2.one;exact⟨u,v,rfl,h1,h3⟩
def A8.bI{a b c:Aa}{us:List Value}(h:A8 γ [a,b,c] us):∃u v x,us=[u,v,x]/\BP γ a u/\BP γ b v/\BP γ c x:=by obtain⟨u,DR,rfl,h1,h2⟩:=h;obtain⟨v,x,rfl,h3,d⟩:=h2.MR;exact⟨u,v,x,rfl,h1,h3,d⟩
def Value.KF:Value->Bool
 | .bool _| .pointer _| .slice _ _ _| .func _ _ _| .nilFunc| .map _=>true
 |_=>false
def Uy{op:BinOp}{neg:Bool}(NH:(op= .eql/\neg=false)\/(op= .neq/\neg=true))(t:TypeId)(c b:Operand){x y:Value}(hx:Value.KF x=true)(hy:Value.KF y=true){e:Bool}
  (he:(Op.equal t x y).run P w= .ok e w):(do eqGuard op t c b x y;binOp op t x y:Sem Value).run P w= .ok (.bool (e != neg)) w:=by
 have hg:eqGuard op t c b x y=pure ():=by rcases NH with⟨rfl,_⟩|⟨rfl,_⟩<;>cases x<;>simp[Value.KF] at hx<;>rfl
 rw[hg];rcases NH with⟨rfl,rfl⟩|⟨rfl,rfl⟩
 .have hb:binOp .eql t x y=(do pure (.bool (<-Op.equal t x y))):=by cases x<;>simp[Value.KF] at hx<;>cases y<;>simp[Value.KF] at hy<;>rfl
  simp[hb,he]
 .have hb:binOp .neq t x y=(do pure (.bool (!(<-Op.equal t x y)))):=by cases x<;>simp[Value.KF] at hx<;>cases y<;>simp[Value.KF] at hy<;>rfl
  simp[hb,he]
def lZ{op:BinOp}{neg:Bool}(NH:(op= .eql/\neg=false)\/(op= .neq/\neg=true))(t:TypeId)(d c:Operand)(ht:P.underlying t=some .bool)(a b:Bool):
  (do eqGuard op t d c (.bool a) (.bool b);binOp op t (.bool a) (.bool b):Sem Value).run P w= .ok (.bool ((a==b) != neg)) w:=
 Uy NH t d c rfl rfl (run_equalIn_bool' w 9999 t a b ht)
def V5{d:Nat}{t e:TypeId}(ht:P.underlying t=some (.pointer e))(hz:∃n,B0 P e=some (n+1)){a b:Aa}{x y:Value}(hx:BP γ a x)(hy:BP γ b y){r:Bool}(h:wH a b=some r):
  (Op.equalIn (d+1) t x y).run P w= .ok r w/\Value.KF x=true/\Value.KF y=true:=by
 obtain⟨n,hn⟩:=hz;unfold wH at h;split at h
 .rename_i q;cases h;rw[show x= .pointer none from hx];have:∃p,y= .pointer p/\p.isNone=q.isNone:=by
   cases q with
   |none=>exact⟨none,hy,rfl⟩
   |some p=>obtain⟨i,o⟩:=p;obtain⟨b,_,rfl⟩:=hy;exact⟨_,rfl,rfl⟩
  obtain⟨p,rfl,hp⟩:=this;exact⟨by simp[Op.equalIn,run_underlying ht,hp],rfl,rfl⟩
 .rename_i p;cases h;obtain⟨i,o⟩:=p;obtain⟨b,_,rfl⟩:=hx;rw[show y= .pointer none from hy];exact⟨by simp[Op.equalIn,run_underlying ht],rfl,rfl⟩
 .rename_i p q;split at h;.rename_i he;cases h;subst he;obtain⟨i,o⟩:=p;obtain⟨b,hb,rfl⟩:=hx;obtain⟨b',Se,rfl⟩:=hy;rw[hb] at Se;cases Se;exact⟨by simp[Op.equalIn,run_underlying ht,DV hn,sameAddr],rfl,rfl⟩
  .cases h
 .cases h;rw[show x= .pointer none from hx];obtain⟨b,o,rfl,_⟩:=hy;exact⟨by simp[Op.equalIn,run_underlying ht],rfl,rfl⟩
 .cases h;rw[show y= .pointer none from hy];obtain⟨b,o,rfl,_⟩:=hx;exact⟨by simp[Op.equalIn,run_underlying ht],rfl,rfl⟩
 .cases h
def EY{d:Nat}{t e:TypeId}(ht:P.underlying t=some (.slice e)){p q:Option Addr}{n c m k:Nat}(h:p=none\/q=none):
  (Op.equalIn (d+1) t (.slice p n c) (.slice q m k)).run P w= .ok (p.isNone&&q.isNone) w:=by
 cases p<;>cases q<;>simp at h<;>simp[Op.equalIn,run_underlying ht]
def M3{d:Nat}{t:TypeId}{a b:Array TypeId}{c:Bool}(ht:P.underlying t=some (.func a b c)){f:Fn}{x y:Array Value}:
  (Op.equalIn (d+1) t .nilFunc .nilFunc).run P w= .ok true w/\(Op.equalIn (d+1) t .nilFunc (.func f x y)).run P w= .ok false w/\(Op.equalIn (d+1) t (.func f x y) .nilFunc).run P w= .ok false w:=by
 refine⟨?_,?_,?_⟩<;>simp[Op.equalIn,run_underlying ht]
def Mu{d:Nat}{t k e:TypeId}(ht:P.underlying t=some (.map k e)){p q:Option Nat}(h:p=none\/q=none):
  (Op.equalIn (d+1) t (.map p) (.map q)).run P w= .ok (p.isNone&&q.isNone) w:=by
 cases p<;>cases q<;>simp at h<;>simp[Op.equalIn,run_underlying ht]
def V6{d:Nat}{t:TypeId}{k:NK}(ht:match k with| .sl=>∃e,P.underlying t=some (.slice e)| .fn=>∃a b c,P.underlying t=some (.func a b c)| .mp=>∃a b,P.underlying t=some (.map a b))
  {a b:Aa} {x y:Value} (hx:BP γ a x) (hy:BP γ b y) {r:Bool} (h:wI k a b=some r):
  (Op.equalIn (d+1) t x y).run P w= .ok r w/\Value.KF x=true/\Value.KF y=true:=by
 unfold wI at h;split at h;case h_1=>obtain⟨e,ht⟩:=ht;cases h;rw[show x= .slice none 0 0 from hx,show y= .slice none 0 0 from hy];exact⟨EY ht (.inl rfl),rfl,rfl⟩
 case h_2=>obtain⟨e,ht⟩:=ht;cases h;rw[show x= .slice none 0 0 from hx];obtain⟨_,_,rfl,_⟩:=hy;exact⟨EY ht (.inl rfl),rfl,rfl⟩
 case h_3=>obtain⟨e,ht⟩:=ht;cases h;rw[show y= .slice none 0 0 from hy];obtain⟨_,_,rfl,_⟩:=hx;exact⟨EY ht (.inr rfl),rfl,rfl⟩
 case h_4=>obtain⟨e,ht⟩:=ht;cases h;rw[show x= .slice none 0 0 from hx];obtain⟨_,rfl⟩:=hy;exact⟨EY ht (.inl rfl),rfl,rfl⟩
 case h_5=>obtain⟨e,ht⟩:=ht;cases h;rw[show y= .slice none 0 0 from hy];obtain⟨_,rfl⟩:=hx;exact⟨EY ht (.inr rfl),rfl,rfl⟩
 case h_6=>obtain⟨e,ht⟩:=ht;cases h;rw[show x= .slice none 0 0 from hx];obtain⟨_,_,_,rfl,_⟩:=hy;exact⟨EY ht (.inl rfl),rfl,rfl⟩
 case h_7=>obtain⟨e,ht⟩:=ht;cases h;rw[show y= .slice none 0 0 from hy];obtain⟨_,_,_,rfl,_⟩:=hx;exact⟨EY ht (.inr rfl),rfl,rfl⟩
 case h_8=>obtain⟨_,_,_,ht⟩:=ht;cases h;rw[show x= .nilFunc from hx,show y= .nilFunc from hy];exact⟨(M3 ht (f:= .func 0) (x:=#[]) (y:=#[])).1,rfl,rfl⟩
 case h_9=>obtain⟨_,_,_,ht⟩:=ht;cases h;rw[show x= .nilFunc from hx];obtain⟨_,_,rfl,_⟩:=hy;exact⟨(M3 ht).2.1,rfl,rfl⟩
 case h_10=>obtain⟨_,_,_,ht⟩:=ht;cases h;rw[show y= .nilFunc from hy];obtain⟨_,_,rfl,_⟩:=hx;exact⟨(M3 ht).2.2,rfl,rfl⟩
 case h_11=>
  rename_i q;obtain⟨_,_,ht⟩:=ht;cases h;rw[show x= .map none from hx];cases q with
  |none=>rw[show y= .map none from hy];exact⟨Mu ht (.inl rfl),rfl,rfl⟩
  |some id=>obtain⟨b,_,rfl⟩:=hy;exact⟨Mu ht (.inl rfl),rfl,rfl⟩
 case h_12=>obtain⟨_,_,ht⟩:=ht;cases h;rw[show y= .map none from hy];obtain⟨b,_,rfl⟩:=hx;exact⟨Mu ht (.inr rfl),rfl,rfl⟩
 .cases h
def ly{op:BinOp}{args:List Aa}{u:Aa}(h:AH (.int op) args=some u):∃k a l b,args=[.int k a,.int l b]/\wG op k a l b=some u:=by
 simp only[AH] at h;split at h;.exact⟨_,_,_,_,rfl,h⟩
 .cases h
def lz{op:BinOp}{args:List Aa}{u:Aa}(h:AH (.str op) args=some u):∃a b,args=[.str a,.str b]/\lO op a b=some u:=by
 simp only[AH] at h;split at h;.exact⟨_,_,rfl,h⟩
 .cases h
def l8{op:BinOp}{t:TypeId}{p:ZG}(hp:Re P op t=some p)(f c:Operand){args:List Aa}{x y:Value}(ha:A8 γ args [x,y]){u:Aa}(h:AH p args=some u):
  ∃v,(do eqGuard op t f c x y;binOp op t x y:Sem Value).run P w= .ok v w/\BP γ u v:=by
 unfold Re at hp;split at hp;.cases hp;obtain⟨k,a,l,b,rfl,h⟩:=ly h;obtain⟨_,_,e,hx,hy⟩:=ha.MR;cases e;rw[EK hx,EK hy];exact lU t f c h
 .cases hp;obtain⟨a,b,rfl,h⟩:=lz h;obtain⟨_,_,e,hx,hy⟩:=ha.MR;cases e;rw[Pb hx,Pb hy];exact lV t f c h
 .rename_i d h1 h2 hu;obtain⟨neg,NH,g⟩:∃neg,((op= .eql/\neg=false)\/(op= .neq/\neg=true))/\Us P t neg d=some p:=by cases op<;>first|cases hp;done|exact⟨false,.inl ⟨rfl,rfl⟩,hp⟩|exact⟨true,.inr ⟨rfl,rfl⟩,hp⟩
  clear h1 h2 hp;have hp:=g;clear g;unfold Us at hp;split at hp
  .cases hp;simp only[AH] at h;split at h;.obtain⟨_,_,e,hx,hy⟩:=ha.MR;cases e;cases h;rw[Tc hx,Tc hy];exact⟨_,lZ NH t f c hu _ _,rfl⟩
   .cases h
  .split at hp
   .rename_i hg;cases hk:Qi P 20 t with
    |none=>rw[hk] at hp;cases hp
    |some ks=>
     rw[hk] at hp;cases hp;simp only[AH] at h;split at h;.obtain⟨_,_,e,hx,hy⟩:=ha.MR;cases e;exact lY NH hg hk ⟨_,hu⟩ hx hy h
     .cases h
   .cases hp
  .split at hp;.cases hp
   .rename_i e hz;cases hp;simp only[AH] at h;split at h
    .rename_i a b;obtain⟨_,_,e,hx,hy⟩:=ha.MR;cases e;cases hq:wH a b with
     |none=>rw[hq] at h;cases h
     |some r=>rw[hq] at h;cases h;obtain⟨m,j,i⟩:=V5 (w:=w) (d:=9999) hu (by cases ZN:B0 P e with|none=>rw[ZN] at hz;exact absurd rfl hz|some n=>cases n with|zero=>rw[ZN] at hz;exact absurd rfl hz|succ n=>exact⟨n,rfl⟩) hx hy hq;exact⟨_,Uy NH t f c j i m,rfl⟩
    .cases h
  all_goals first
   |cases hp;done
   | (cases hp
      simp only [AH] at h
      split at h
      . rename_i a b
        obtain ⟨_, _, e, hx, hy⟩ := ha.MR
        cases e
        cases hq : wI _ a b with
        | none => rw [hq] at h; cases h
        | some r =>
          rw [hq] at h; cases h
          obtain ⟨m, j, i⟩ := V6 (w := w) (P := P) (t := t) (d := 9999) (by first | exact ⟨_, hu⟩ | exact ⟨_, _, hu⟩ | exact ⟨_, _, _, hu⟩) hx hy hq
          exact ⟨_, Uy NH t f c j i m, rfl⟩
      . cases h)
 .cases hp
end
end Go.Am
end
section
namespace Go.Am
open Go
section
variable{P:Program}{γ:Gh}{w:World}
def aCV{op:UnOp}{a u:Aa}{x:Value}(hx:BP γ a x)(h:aCM op a=some u):∃v,(Op.unary op x).run P w= .ok v w/\BP γ u v:=by
 unfold aCM at h;split at h;.cases h;rw[Tc hx];exact⟨_,rfl,rfl⟩
 .cases h;rw[EK hx];exact⟨_,rfl,rfl⟩
 .rename_i k n;rw[EK hx];unfold aBx at h;cases hs:Rc (Op.unary .xor (.int k n)) with
  |none=>rw[hs] at h;cases h
  |some v=>
   rw[hs] at h;have b:=XD hs;simp only[Cw] at h;split at h;.cases h;exact⟨_,by rw[b];rfl,rfl⟩
   .cases h
 .cases h
def eK{src dst:TypeId}{k l k':IntKind}{n:Int}(hs:P.underlying src=some (.int l))(hd:P.underlying dst=some (.int k)):(convert src dst (.int k' n)).run P w= .ok (.int k (k.wrap n)) w:=by simp[convert,run_underlying hs,run_underlying hd,Conv.intToInt]
def eM{src dst:TypeId}{l k':IntKind}{n:Int}(hs:P.underlying src=some (.int l))(hd:P.underlying dst=some .string):(convert src dst (.int k' n)).run P w= .ok (.string (Utf8.encode n)) w:=by simp[convert,run_underlying hs,run_underlying hd,Conv.intToString]
def l_{t:TypeId}{f off:Nat}{sh:Option Nat}(hf:IZ P t f=some (off,sh)){cs:List Aa}{x:Value}(hx:BP γ (.agg cs) x){u:Aa}(h:FG cs off sh=some u):∃v,(Instr.field t x f).run P w= .ok v w/\BP γ u v:=by
 unfold IZ at hf;split at hf
 .rename_i fs hu;split at hf
  .rename_i fd wY;split at hf;.rename_i n b h1 h2;cases hf;obtain⟨us,rfl,hr,h1c⟩:=hx;obtain⟨v,p,q⟩:=lW (w:=w) h2 hr h1c h;exact⟨v,by simp[Instr.field,run_underlying hu,wY,asAgg,p],q⟩
   .cases hf
  .cases hf
 .cases hf
def Si{i:Int}{len j:Nat}(h:MX i len=some j):0<=i/\i<len/\i.toNat=j:=by
 unfold MX at h;split at h;.rename_i hc;cases h;exact⟨hc.1,hc.2,rfl⟩
 .cases h
def ZO{t e:TypeId}{len n:Nat}{sh:Option Nat}(ht:P.underlying t=some (.array len e))(hn:B0 P e=some n)(qF:FE P e=some sh){cs:List Aa}{x:Value}(hx:BP γ (.agg cs) x){k:IntKind}{i:Int}{j:Nat}
  (hi:MX i len=some j) {u:Aa} (h:FG cs (j*n) sh=some u):∃v,(Instr.index t x (.int k i)).run P w= .ok v w/\BP γ u v:=by
 obtain⟨us,rfl,hr,h1c⟩:=hx;obtain⟨d,c,b⟩:=Si hi;obtain⟨v,p,q⟩:=lW (w:=w) qF hr h1c h;exact⟨v,by simp[Instr.index,asIntOf,run_underlying ht,d,c,DV hn,b,p],q⟩
def ZP{t:TypeId}(ht:P.underlying t=some .string){s:Ah}{k:IntKind}{i:Int}{b:UInt8}(h0:0<=i)(h:s[i.toNat]?=some b):
  (Instr.index t (.string ⟨⟨s⟩⟩) (.int k i)).run P w= .ok (.int .u8 b.toNat) w:=by
 obtain⟨hlt,hb⟩:=Aj.1 h;have e:(⟨⟨s⟩⟩:ByteArray)[i.toNat]?=some b:=by rw[ByteArray.getElem?_lt' _ _ (show i.toNat<(⟨⟨s⟩⟩:ByteArray).size from hlt),<-hb];rfl
 simp[Instr.index,asIntOf,run_underlying ht,h0,e]
def wZ{p u:Aa}{x:Value}{n:Nat}(hx:BP γ p x)(h:Xm p n=some u):∃a,x= .pointer (some a)/\BP γ u (.pointer (some (a.add n))):=by
 unfold Xm at h;split at h;.rename_i cs;cases h;obtain⟨b,o,rfl,hm⟩:=hx;refine⟨_,rfl,b,o+n,?_,hm.drop n⟩;unfold Addr.add;split<;>simp_all
 .rename_i id o;cases h;obtain⟨b,hb,rfl⟩:=hx;refine⟨_,rfl,b,hb,?_⟩;unfold Addr.add;split<;>simp_all
 .cases h
def mA{t:TypeId}{f off:Nat}{sh:Option Nat}(hf:IZ P t f=some (off,sh)){p u:Aa}{x:Value}(hx:BP γ p x)(h:Xm p off=some u):∃v,(Instr.fieldAt t x f).run P w= .ok v w/\BP γ u v:=by
 obtain⟨a,rfl,hu⟩:=wZ hx h;refine⟨_,?_,hu⟩;unfold IZ at hf;split at hf
 .rename_i fs ls;split at hf
  .rename_i fd wY;split at hf;.rename_i n b h1 h2;cases hf;simp[Instr.fieldAt,run_underlying ls,wY,Instr.sureAddr,fieldPlace,DV h1]
   .cases hf
  .cases hf
 .cases hf
def qY{t e:TypeId}{n:Nat}(ht:P.underlying t=some (.slice e))(hn:B0 P e=some n){s u:Aa}{x:Value}(hx:BP γ s x){k:IntKind}{i:Int}(h:elemOf n s i=some u):
  ∃v,(Instr.indexAt t x (.int k i)).run P w= .ok v w/\BP γ u v:=by
 have JN:P.underlying t=some (.slice (P.elem t)):=by simp[Program.elem,ht]
 have he:P.elem t=e:=by simp[Program.elem,ht]
 unfold elemOf at h;split at h
 .rename_i z Ax;split at h
  .rename_i hz;subst hz;split at h
   .rename_i h0;cases hr:Ax[i.toNat]? with
    |none=>rw[hr] at h;cases h
    |some row=>
     rw[hr] at h;cases h;obtain⟨d,cap,rfl,hc,hsp,hm⟩:=hx;obtain⟨hl,c⟩:=hm.get hr;have hlt:i<Ax.length:=by have:=(Aj.1 hr).1;omega
     have qZ:=O5 hsp hc Ab;generalize d.block=b at*;generalize d.off=o at*;subst qZ;refine⟨.pointer (some ((⟨b,o,none⟩:Addr).add (i.toNat*z))),by rw[run_indexAt_slice w t _ _ _ _ _ JN,Af ⟨h0,hlt⟩,he,DV hn];rfl,b,o+i.toNat*z,?_,c⟩;unfold Addr.add;split<;>simp_all
   .cases h
  .cases h
 .rename_i id off len z;split at h
  .rename_i hz;subst hz;cases hj:MX i len with
   |none=>rw[hj] at h;cases h
   |some j=>rw[hj] at h;cases h;obtain⟨l,g,f⟩:=Si hj;subst f;obtain⟨b,cap,hb,rfl,hc,hz⟩:=hx;refine⟨.pointer (some ((⟨b,off,none⟩:Addr).add (i.toNat*z))),by rw[run_indexAt_slice w t _ _ _ _ _ JN,Af ⟨l,g⟩,he,DV hn];rfl,b,hb,?_⟩;unfold Addr.add;split<;>simp_all
  .cases h
 .cases h
def ma{t e:TypeId}{len n:Nat}(ht:P.underlying t=some (.array len e))(hn:B0 P e=some n){p u:Aa}{x:Value}(hx:BP γ p x){k:IntKind}{i:Int}{j:Nat}(hj:MX i len=some j)(h:Xm p (j*n)=some u):
  ∃v,(Instr.indexAt t x (.int k i)).run P w= .ok v w/\BP γ u v:=by
 have JN:P.underlying t=some (.array (P.arrayLen t) (P.elem t)):=by simp[Program.elem,Program.arrayLen,ht]
 have he:P.elem t=e:=by simp[Program.elem,ht]
 have hl:P.arrayLen t=len:=by simp[Program.arrayLen,ht]
 obtain⟨a,rfl,hu⟩:=wZ hx h;obtain⟨d,c,b⟩:=Si hj;subst b;exact⟨_,by rw[run_indexAt_array w t _ _ _ JN,hl,Af ⟨d,c⟩,he,DV hn];rfl,hu⟩
def ŉ{t ty:TypeId}{isStr:Bool}(ht:if isStr=true then P.underlying t=some .string else∃e,P.underlying t=some (.slice e)){ts:Array TypeId}(eO:ts[0]?=some t){s u:Aa}{x:Value}(hx:BP γ s x)(h:lenOf isStr s=some u):
  ∃v,(Builtin.len_ ts ty #[x]).run P w= .ok v w/\BP γ u v:=by
 cases isStr with
 |true=>
  replace ht:P.underlying t=some .string:=ht;unfold lenOf at h;split at h<;>first|cases h;done|skip
  simp only[BN] at h;cases h;rw[Pb hx];refine⟨_,by simp[Builtin.len_,eO,run_underlying ht];rfl,rfl⟩
 |false=>
  obtain⟨e,ht⟩:∃e,P.underlying t=some (.slice e):=ht;unfold lenOf at h;split at h;.cases h;obtain⟨c,cap,rfl,_⟩:=hx;exact⟨_,by simp[Builtin.len_,eO,run_underlying ht];rfl,rfl⟩
  .cases h;obtain⟨b,cap,_,rfl,_⟩:=hx;exact⟨_,by simp[Builtin.len_,eO,run_underlying ht];rfl,rfl⟩
  .cases h;rw[show x= .slice none 0 0 from hx];exact⟨_,by simp[Builtin.len_,eO,run_underlying ht];rfl,rfl⟩
  .cases h;obtain⟨b,rfl⟩:=hx;exact⟨_,by simp[Builtin.len_,eO,run_underlying ht];rfl,rfl⟩
  .cases h
  .cases h
def Ŋ{vs:List Aa}{x:Value}(hx:BP γ (.tuple vs) x){i:Nat}{u:Aa}(h:vs[i]?=some u):∃v,(Instr.extract x i).run P w= .ok v w/\BP γ u v:=by
 obtain⟨us,rfl,hr⟩:=hx;obtain⟨v,hv,q⟩:=hr.get h;exact⟨v,by
  have:us[i]?=some v:=by simpa using hv
  simp[Instr.extract,this],q⟩
end
end Go.Am
end
section
namespace Go.Am
open Go
section
variable{P:Program}{γ:Gh}{w:World}
def Pc{n:Int}{top j:Nat}(h:EP n top=some j):0<=n/\n<=top/\n.toNat=j:=by
 unfold EP at h;split at h;.rename_i hc;cases h;exact⟨hc.1,hc.2,rfl⟩
 .cases h
def Ll{lo hi:Option Value}{as:List Aa}{len cap l h:Nat}{isSlice:Bool}(hb:DY lo.isSome hi.isSome len as=some (l,h))(hr:A8 γ as (lo.toList++hi.toList))(hc:len<=cap):
  (Instr.sliceBounds isSlice len cap lo hi none).run P w= .ok (l,h,cap) w/\l<=h/\h<=len:=by
 cases lo<;>cases hi<;>simp only[Option.isSome,DY] at hb
 .split at hb;.cases hb;exact⟨by simp[Instr.sliceBounds],Bp _,Ad _⟩
  .cases hb
 .rename_i hv;split at hb
  .rename_i k h';cases b:EP h' len with
   |none=>rw[b] at hb;cases hb
   |some j=>rw[b] at hb;cases hb;obtain⟨f,g,d⟩:=Pc b;obtain⟨_,e,hx⟩:=hr.one;cases e;rw[EK hx];refine⟨?_,Bp _,Ab⟩;have:h'<=(cap:Int):=Ab;simp[Instr.sliceBounds,run_sliceBound,f,this,d]
  .cases hb
 .rename_i p;split at hb
  .rename_i k l';cases b:EP l' len with
   |none=>rw[b] at hb;cases hb
   |some j=>rw[b] at hb;cases hb;obtain⟨f,g,d⟩:=Pc b;obtain⟨_,e,hx⟩:=hr.one;cases e;rw[EK hx];refine⟨?_,Ab,Ad _⟩;simp[Instr.sliceBounds,run_sliceBound,f,g,d]
  .cases hb
 .rename_i p hv;split at hb
  .rename_i k l' k' h';cases b:EP h' len with
   |none=>rw[b] at hb;cases hb
   |some j=>
    rw[b] at hb;simp only[Cw] at hb;cases c:EP l' j with
    |none=>rw[c] at hb;cases hb
    |some i=>rw[c] at hb;cases hb;obtain⟨f,g,d⟩:=Pc b;obtain⟨o,n,m⟩:=Pc c;obtain⟨_,_,e,hx,hy⟩:=hr.MR;cases e;rw[EK hx,EK hy];refine⟨?_,Ab,Ab⟩;have:h'<=(cap:Int):=Ab;simp[Instr.sliceBounds,run_sliceBound,f,this,o,d,m,n]
  .cases hb
def Fb.slice{Ax:List (List Aa)}{z b o:Nat}(h:Fb γ Ax z b o)(l k:Nat):Fb γ ((Ax.take k).drop l) z b (o+l*z):=by
 refine Fb.Hr λi r hi=>?_;rw[CF,CA] at hi;split at hi;.obtain⟨p,q⟩:=h.get hi;exact⟨p,by rw[show o+l*z+i*z=o+(l+i)*z by rw[BJ];omega];exact q⟩
 .cases hi
def ŋ{t:TypeId}{isStr:Bool}{size:Nat}(ht:if isStr=true then P.underlying t=some .string else∃e,P.underlying t=some (.slice e)/\B0 P e=some size){s u:Aa}{x:Value}(hx:BP γ s x){as:List Aa}{lo hi:Option Value}
  (hr:A8 γ as (lo.toList++hi.toList)) (h:Jl size isStr lo.isSome hi.isSome s as=some u):
  ∃v,(Instr.sliceAt t x lo hi none).run P w= .ok v w/\BP γ u v:=by
 unfold Jl at h;split at h
 .split at h
  .rename_i s RF;subst RF;replace ht:P.underlying t=some .string:=ht;cases hb:DY lo.isSome hi.isSome s.length as with
   |none=>rw[hb] at h;cases h
   |some f=>
    obtain⟨l,k⟩:=f;rw[hb] at h;cases h;obtain⟨c,i,g⟩:=Ll (P:=P) (w:=w) (isSlice:=false) hb hr (Ad _);rw[Pb hx,run_sliceAt_string w t _ _ _ _ ht];refine⟨.string ((⟨⟨s⟩⟩:ByteArray).extract l k),?_,?_⟩;.have e:(⟨⟨s⟩⟩:ByteArray).size=s.length:=rfl;simp only[Instr.slice,Sem.run_bind,run_underlying ht,Result.andThen_ok];simp only[e,c,Option.isSome,Cb,DP,Sem.run_bind,Sem.run_pure,Result.andThen_ok]
    .show Value.string _=Value.string _;congr 1
     apply ByteArray.ext;apply HV;simp[ByteArray.data_extract,Ib,List.drop_take]
  .cases h
 .rename_i z Ax;split at h
  .rename_i hc;obtain⟨rfl,rfl⟩:=hc;obtain⟨e,ht,hn⟩:∃e,P.underlying t=some (.slice e)/\B0 P e=some z:=ht;have JN:P.underlying t=some (.slice (P.elem t)):=by simp[Program.elem,ht]
   have he:P.elem t=e:=by simp[Program.elem,ht]
   obtain⟨d,cap,rfl,hc,hsp,hm⟩:=hx;cases hb:DY lo.isSome hi.isSome Ax.length as with
   |none=>rw[hb] at h;cases h
   |some f=>
    obtain⟨l,k⟩:=f;rw[hb] at h;cases h;obtain⟨c,i,g⟩:=Ll (P:=P) (w:=w) (isSlice:=true) hb hr hc;rw[run_sliceAt_slice w t _ _ _ _ JN,run_slice_any w t _ _ _ JN,c,he,Result.andThen_ok,DV hn];refine⟨_,rfl,?_⟩;show BP γ (.sl z ((Ax.take k).drop l)) (.slice (if cap=l then some d else Option.map (λq:Addr=>q.add (l*z)) (some d)) (k-l) (cap-l));have hlen:((Ax.take k).drop l).length=k-l:=Et;by_cases hcl:cap=l;.have:(Ax.take k).drop l=[]:=CX Ab;rw[this];simp only[hcl,BN];exact⟨d,l-l,Et,AB,.inr Ab,trivial⟩
    .rw[Ac hcl];have qZ:d=⟨d.block,d.off,none⟩:=by
      rcases hsp with hsp|hsp
      .cases d;simp_all
      .omega
     generalize d.block=b at*;generalize d.off=o at*;subst qZ;refine⟨⟨b,o+l*z,none⟩,cap-l,?_,Ab,.inl rfl,hm.slice l k⟩;rw[hlen];simp only[BV];unfold Addr.add;split<;>simp_all
  .cases h
 .rename_i id off n z;split at h
  .rename_i hc;obtain⟨rfl,rfl⟩:=hc;obtain⟨e,ht,hn⟩:∃e,P.underlying t=some (.slice e)/\B0 P e=some z:=ht;have JN:P.underlying t=some (.slice (P.elem t)):=by simp[Program.elem,ht]
   have he:P.elem t=e:=by simp[Program.elem,ht]
   obtain⟨b,cap,j,rfl,hc,hz,Lk⟩:=hx;cases hb:DY lo.isSome hi.isSome n as with
   |none=>rw[hb] at h;cases h
   |some f=>
    obtain⟨l,k⟩:=f;rw[hb] at h;simp only[Cw] at h;split at h
    .rename_i xA;cases h;obtain⟨c,i,g⟩:=Ll (P:=P) (w:=w) (isSlice:=true) hb hr hc;rw[run_sliceAt_slice w t _ _ _ _ JN,run_slice_any w t _ _ _ JN,c,he,Result.andThen_ok,DV hn];refine⟨_,rfl,b,cap-l,j,?_,Ab,⟨hz.1,Bv (Nat.sub_le _ _) hz.2⟩,?_⟩;.show Value.slice (if cap=l then some ⟨b,off,none⟩ else Option.map (λq:Addr=>q.add (l*z)) (some ⟨b,off,none⟩)) (k-l) (cap-l)=_;rw[Ac Ab];simp only[BV];unfold Addr.add;split<;>simp_all
     .rw[Lk,SP,<-BJ,aLU Ab]
    .rename_i xA;cases h;obtain⟨c,i,g⟩:=Ll (P:=P) (w:=w) (isSlice:=true) hb hr hc;rw[run_sliceAt_slice w t _ _ _ _ JN,run_slice_any w t _ _ _ JN,c,he,Result.andThen_ok,DV hn];have XF:k-l=0:=Ab;by_cases hcl:cap=l;.refine⟨_,rfl,⟨b,off,none⟩,cap-l,?_,AB,.inl rfl,trivial⟩;show Value.slice (if cap=l then some ⟨b,off,none⟩ else Option.map (λq:Addr=>q.add (l*z)) (some ⟨b,off,none⟩)) (k-l) (cap-l)=_;rw[Af hcl,XF];rfl
     .refine⟨_,rfl,(Addr.mk b off none).add (l*z),cap-l,?_,AB,.inl ?_,trivial⟩;.show Value.slice (if cap=l then some ⟨b,off,none⟩ else Option.map (λq:Addr=>q.add (l*z)) (some ⟨b,off,none⟩)) (k-l) (cap-l)=_;rw[Ac hcl,XF];rfl
      .unfold Addr.add;split<;>simp_all
  .cases h
 .split at h;.cases h
  .rename_i RF;have RF:isStr=false:=by simpa using RF
   subst RF;obtain⟨e,ht,hn⟩:∃e,P.underlying t=some (.slice e)/\B0 P e=some size:=ht;have JN:P.underlying t=some (.slice (P.elem t)):=by simp[Program.elem,ht]
   have he:P.elem t=e:=by simp[Program.elem,ht]
   rw[show x= .slice none 0 0 from hx];cases hb:DY lo.isSome hi.isSome 0 as with
   |none=>rw[hb] at h;cases h
   |some f=>obtain⟨l,k⟩:=f;rw[hb] at h;cases h;obtain⟨c,i,g⟩:=Ll (P:=P) (w:=w) (isSlice:=true) hb hr (Ad _);rw[run_sliceAt_slice w t _ _ _ _ JN,run_slice_any w t _ _ _ JN,c,he,Result.andThen_ok,DV hn];refine⟨_,rfl,?_⟩;have:l=0:=Ab;subst this;have:k=0:=Ab;subst this;rfl
 .cases h
end
end Go.Am
end
section
namespace Go.Am
open Go
section
variable{P:Program}{γ:Gh}{w:World}
def HK{a:Aa}{v:Value}(h:BP γ a v)(hn:0<a.cells.length):A8 γ a.cells v.cells.toList/\∀u∈v.cells.toList,u.oneCell'=true:=by
 cases a with
 |agg cs=>obtain⟨us,rfl,p,q⟩:=h;exact⟨p,q⟩
 |tuple vs=>exact absurd hn (by simp[Aa.cells])
 |bool b=>rw[show v=_ from h];exact⟨⟨_,[],rfl,rfl,rfl⟩,by simp[Value.cells,Value.oneCell']⟩
 |int k n=>rw[show v=_ from h];exact⟨⟨_,[],rfl,rfl,rfl⟩,by simp[Value.cells,Value.oneCell']⟩
 |str s=>rw[show v=_ from h];exact⟨⟨_,[],rfl,rfl,rfl⟩,by simp[Value.cells,Value.oneCell']⟩
 |slnil=>rw[show v=_ from h];exact⟨⟨_,[],rfl,rfl,rfl⟩,by simp[Value.cells,Value.oneCell']⟩
 |GX z=>have h0:=h;obtain⟨b,rfl⟩:=h;exact⟨⟨_,[],rfl,h0,rfl⟩,by simp[Value.cells,Value.oneCell']⟩
 |nilFunc=>rw[show v=_ from h];exact⟨⟨_,[],rfl,rfl,rfl⟩,by simp[Value.cells,Value.oneCell']⟩
 |nilIface=>rw[show v=_ from h];exact⟨⟨_,[],rfl,rfl,rfl⟩,by simp[Value.cells,Value.oneCell']⟩
 |ptr p=>
  have h0:=h;cases p with
  |none=>rw[show v=_ from h];exact⟨⟨_,[],rfl,rfl,rfl⟩,by simp[Value.cells,Value.oneCell']⟩
  |some p=>obtain⟨i,o⟩:=p;obtain⟨b,_,rfl⟩:=h;exact⟨⟨_,[],rfl,h0,rfl⟩,by simp[Value.cells,Value.oneCell']⟩
 |B9 cs=>have h0:=h;obtain⟨b,o,rfl,_⟩:=h;exact⟨⟨_,[],rfl,h0,rfl⟩,by simp[Value.cells,Value.oneCell']⟩
 |sl z Ax=>have h0:=h;obtain⟨d,cap,rfl,_⟩:=h;exact⟨⟨_,[],rfl,h0,rfl⟩,by simp[Value.cells,Value.oneCell']⟩
 |Dn id off len z=>have h0:=h;obtain⟨b,cap,_,rfl,_⟩:=h;exact⟨⟨_,[],rfl,h0,rfl⟩,by simp[Value.cells,Value.oneCell']⟩
 |map m=>
  have h0:=h;cases m with
  |none=>rw[show v=_ from h];exact⟨⟨_,[],rfl,rfl,rfl⟩,by simp[Value.cells,Value.oneCell']⟩
  |some id=>obtain⟨b,_,rfl⟩:=h;exact⟨⟨_,[],rfl,h0,rfl⟩,by simp[Value.cells,Value.oneCell']⟩
 |func fn f c=>have h0:=h;obtain⟨fs,cs,rfl,_⟩:=h;exact⟨⟨_,[],rfl,h0,rfl⟩,by simp[Value.cells,Value.oneCell']⟩
 |iface t a=>have h0:=h;obtain⟨u,rfl,_⟩:=h;exact⟨⟨_,[],rfl,h0,rfl⟩,by simp[Value.cells,Value.oneCell']⟩
def Pd:∀(vs:List Value) (off j:Nat) (cells:Array Value),off+j+vs.length<=cells.size->
  (vs.zipIdx j).foldl (λcs (c,i)=>cs.setIfInBounds (off+i) c) cells=(cells.toList.take (off+j)++vs++cells.toList.drop (off+j+vs.length)).toArray
 |[],off,j,cells,h=>AB
 |v::vs,off,j,cells,h=>by
  simp only[wB,ua];rw[Pd vs off (j+1) _ (by simp at h⊢;omega)];simp only[AK] at h;have hk:off+j<cells.toList.length:=Et;have e0:(cells.setIfInBounds (off+j) v).toList=cells.toList.set (off+j) v:=AB;have d:(cells.toList.set (off+j) v).take (off+j+1)=cells.toList.take (off+j)++[v]:=by rw[List.take_add_one,aW (Ad _),AI hk];rfl
  have b:(cells.toList.set (off+j) v).drop (off+j+1+vs.length)=cells.toList.drop (off+j+1+vs.length):=aLV Ab;rw[e0,(Ab:off+(j+1)=off+j+1),d,b];rw[(Et:off+j+(v::vs).length=off+j+1+vs.length)];simp
def XG{place:Nat->Option (Nat×Nat)}:∀{places:List (Nat×Nat)} {as:List Aa} {parts:List (Nat×Value)} {cs:List Aa} {us:Array Value} {Hp:List Aa},Cl cs (places.zip as)=some Hp->places.length=as.length->
  parts.map (λp=>place p.1)=places.map some->A8 γ as (parts.map (·.2))->A8 γ cs us.toList->(∀u∈us.toList,u.oneCell'=true)->
  ∃DR,Instr.fill place us parts=some DR/\A8 γ Hp DR.toList/\∀u∈DR.toList,u.oneCell'=true
 |[],as,parts,cs,us,Hp,h,hl,hp,ha,hr,h1=>by
  have:parts=[]:=by simpa using hp
  subst this;simp only[List.zip_nil_left,Cl] at h;cases h;exact⟨us,rfl,hr,h1⟩
 |(off,size)::places,[],parts,cs,us,Hp,h,hl,hp,ha,hr,h1=>by simp at hl
 |(off,size)::places,a::as,[],cs,us,Hp,h,hl,hp,ha,hr,h1=>by simp at hp
 |(off,size)::places,a::as,(i,v)::parts,cs,us,Hp,h,hl,hp,ha,hr,h1=>by
  simp only[aQh,Cl] at h;split at h
  .rename_i hc;obtain⟨o,n,m⟩:=hc;simp only[Bj,Cs] at hp;obtain⟨_,_,e,hav,b⟩:=ha.M2;simp only[Bj,Cs] at e;obtain⟨l,k⟩:=e;subst l;subst k;obtain⟨c,g⟩:=HK hav Ab;have Lk:v.cells.size=size:=by have:=c.length;simp at this;omega
   have bD:us.size=cs.length:=by have:=hr.length;simpa using this
   have hf:=Pd v.cells.toList off 0 us (by simp[Lk];omega);obtain⟨DR,f,r2,d⟩:=XG (place:=place) (us:=(us.toList.take off++v.cells.toList++us.toList.drop (off+size)).toArray) h (by simpa using hl) hp.2 b
    (by simpa using((hr.take off).append c).append (hr.drop (off+size)))
    (λu hu=>by
     simp only[An] at hu;rcases hu with(hu|hu)|hu
     .exact h1 u (AZ hu)
     .exact g u hu
     .exact h1 u (AY hu))
   refine⟨DR,?_,r2,d⟩;rw[Instr.fill];simp only[hp.1];rw[Ac (by simp[Lk];omega)];rw[<-f];congr 1
   have j:v.cells.toList.length=size:=by simpa using Lk
   rw[<-aQi,aLW,hf];simp[j]
  .cases h
def ZQ{v:Value}{a:Aa}(h:LM v=some a):A8 γ a.cells v.cells.toList/\∀u∈v.cells.toList,u.oneCell'=true:=by
 have hr:=FI (γ:=γ) h;unfold LM at h;split at h
 .rename_i cs;cases hs:MQ cs.toList with
  |none=>rw[hs] at h;cases h
  |some as=>rw[hs] at h;cases h;exact N5 hs
 .refine HK hr ?_;unfold Qg at h;split at h<;>first|(cases h;simp[Aa.cells];done)|skip
  .split at h;.cases h;simp[Aa.cells]
   .cases h
  .cases h
def PX{t:TypeId}{fs:Array Field}(hu:P.underlying t=some (.struct fs)){place:Nat->Option (Nat×Nat)}(eQ:∀(i:Nat) (f:Field) (n:Nat),fs[i]?=some f->B0 P f.type=some n->place i=some (f.offset,n)):
  ∀{parts:List (Nat×Operand)} {ps:List (Nat×Nat)},KE P t parts=some ps->parts.map (λp=>place p.1)=ps.map some
 |[],ps,h=>by cases h;rfl
 |(i,x)::rest,ps,h=>by
  simp only[KE,hu] at h;split at h
  .rename_i f hf;split at h;.rename_i n r h1 h2;cases h;simp[eQ i f n hf h1,PX hu eQ h2]
   .cases h
  .cases h
def Qo{t e:TypeId}{len n:Nat}(hu:P.underlying t=some (.array len e))(hn:B0 P e=some n):
  ∀{parts:List (Nat×Operand)} {ps:List (Nat×Nat)},KE P t parts=some ps->parts.map (λp=>some (p.1*n,n))=ps.map some
 |[],ps,h=>by cases h;rfl
 |(i,x)::rest,ps,h=>by
  simp only[KE,hu] at h;split at h
  .split at h;.rename_i n' r h1 h2;cases h;rw[hn] at h1;cases h1;simp[Qo hu hn h2]
   .cases h
  .cases h
def Vl:∀(fs:List Field),(fs.all λf=>(B0 P f.type).isSome)=true->∃places,fs.mapM (λf=>(P.info? f.type).map λi=>(f.offset,i.size))=some places/\
  ∀(i:Nat) (f:Field) (n:Nat),fs[i]?=some f->B0 P f.type=some n->places[i]?=some (f.offset,n)
 |[],_=>⟨[],rfl,AB⟩
 |f::fs,h=>by
  simp only[SQ,Bb] at h;obtain⟨rest,h1,h2⟩:=Vl fs h.2;cases hi:P.info? f.type with
  |none=>simp[B0,hi] at h
  |some b=>
   refine⟨(f.offset,b.size)::rest,by simp[hi,h1],λi g n hg hn=>?_⟩;cases i with
   |zero=>simp at hg;subst hg;simp[B0,hi] at hn;simp[hn]
   |succ i=>simpa using h2 i g n (by simpa using hg) hn
def mb{t:TypeId}{z:Aa}{parts:Array (Nat×Operand)}{ps:List (Nat×Nat)}{O:Operand->Value}(hz:Hq P t=some z)(hp:KE P t parts.toList=some ps)(hb:WA P t=true){as:List Aa}
  (ha:A8 γ as ((parts.toList.map (·.2)).map O)) {u:Aa} (h:AH (.C7 z.cells ps) as=some u):∃v,(Instr.build t (parts.map λ(i,x)=>(i,O x))).run P w= .ok v w/\BP γ u v:=by
 simp only[AH] at h;split at h
 .rename_i hl;cases hf:Cl z.cells (ps.zip as) with
  |none=>rw[hf] at h;cases h
  |some cs=>
   rw[hf] at h;cases h;unfold Hq at hz;cases hi:P.info? t with
   |none=>rw[hi] at hz;cases hz
   |some d=>
    cases ZN:d.zero with
    |none=>rw[hi] at hz;simp[ZN] at hz
    |some k=>
     rw[hi] at hz;simp only[Cw,ZN] at hz;obtain⟨c,z2⟩:=ZQ (γ:=γ) hz;have hparts:((parts.map λ(i,x)=>(i,O x)).toList.map (·.2))=(parts.toList.map (·.2)).map O:=AB;unfold WA at hb;split at hb
     .rename_i fs hu;obtain⟨places,j,g⟩:=Vl fs.toList hb;obtain⟨DR,f1,f2,f3⟩:=XG (place:=λi=>places.toArray[i]?) (parts:=(parts.map λ(i,x)=>(i,O x)).toList) hf hl
       (by have:=PX hu (place:=λi=>places.toArray[i]?) (λi f n h1 h2=>by simpa using g i f n (by simpa using h1) h2) hp;rw[<-this];simp) (by rw[hparts];exact ha) c z2
      exact⟨.agg DR,run_build w t _ _ (by unfold Program.built;simp only[hi,hu,ZN,j];exact f1),DR,rfl,f2,f3⟩
     .rename_i len e hu;cases he:P.info? e with
      |none=>simp[B0,he] at hb
      |some b=>
       obtain⟨DR,f1,f2,f3⟩:=XG (place:=λi=>some (i*b.size,b.size)) (parts:=(parts.map λ(i,x)=>(i,O x)).toList) hf hl
        (by have:=Qo hu (n:=b.size) (by simp[B0,he]) hp;rw[<-this];simp) (by rw[hparts];exact ha) c z2
       exact⟨.agg DR,run_build w t _ _ (by unfold Program.built;simp only[hi,hu,ZN,he];exact f1),DR,rfl,f2,f3⟩
     .cases hb
 .cases h
end
end Go.Am
end
section
namespace Go.Am
open Go
def ZG.still:ZG->Bool
 | .append _ _| .CC _| .GX _| .s2b| .ZM=>false
 |_=>true
def HL{o:vg}{dst:Option Nat}{x:Option (List Aa)}{r:EW}(h:Uu o dst x=some r):∃args,x=some args/\r= .mem o args dst:=by
 unfold Uu at h;split at h;.cases h;exact⟨_,rfl,rfl⟩
 .cases h
def L0{o:vg}{dst:Option Nat}{x:Option (List Aa)}{p:ZG}{args:List Aa}{d:Option Nat}{BT:Bool}{b:Option (Nat×Aa)}:¬Uu o dst x=some (.op p args d BT b):=λh=>by obtain⟨_,_,e⟩:=HL h;cases e
def D9{p:ZG}{dst:Option Nat}{x:Option (List Aa)}{r:EW}(h:Ut p dst x=some r):∃args,x=some args/\r= .op p args dst false none:=by
 cases x with
 |none=>cases h
 |some args=>cases h;exact⟨args,rfl,rfl⟩
section
variable{C:Gj}{γ0 γ:Gh}{w0 w:World}{Z:Nat->Nat}{U:BR}{h:Ai}{a:Act}{fid:FuncId}{ops:List Oper}
def Iz(P:Program)(γ:Gh)(a:Act)(o:Oper)(w:World)(p:ZG)(args:List Aa):Prop:=
 ∀u,AH p args=some u->∃v,(execOp a.eval o).run P w= .ok (.value v) w/\BP γ u v
def E6{P:Program}{s:Sem Value}{v:Value}(hs:s.run P w= .ok v w):(do pure (Next.value (<-s)):Sem Next).run P w= .ok (.value v) w:=by simp[hs]
def rA{o:Oper}{c x y:Operand}(ho:o.op= .pick c x y)(hr:Db C γ0 w0 γ Z U h a w){args:List Aa}(ha:Bs C U [c,x,y]=some args):Iz C.P γ a o w .pick args:=by
 intro u hu;simp only[AH] at hu;split at hu;.rename_i b p q;cases hu;obtain⟨_,_,_,e,h1,h2,h3⟩:=(D8 hr ha).bI;simp only[Bj,DM,Cs] at e;obtain⟨g,f,d,_⟩:=e;rw[<-g] at h1;rw[<-f] at h2;rw[<-d] at h3;refine⟨if b then a.eval x else a.eval y,?_,by cases b<;>simpa⟩;simp[execOp,ho,Tc h1,asBool]
 .cases hu
def mc{o:Oper}{op:BinOp}{t:TypeId}{x y:Operand}{p:ZG}(hp:Re C.P op t=some p)(he:execOp a.eval o=(do pure (Next.value (<-(do eqGuard op t x y (a.eval x) (a.eval y);binOp op t (a.eval x) (a.eval y):Sem Value)))))
  (hr:Db C γ0 w0 γ Z U h a w) {args:List Aa} (ha:Bs C U [x,y]=some args):Iz C.P γ a o w p args:=by
 intro u hu;obtain⟨v,c,b⟩:=l8 (w:=w) hp x y (D8 hr ha) hu;exact⟨v,by rw[he];exact E6 c,b⟩
def Hb(hr:Db C γ0 w0 γ Z U h a w){x:Operand}{args:List Aa}(ha:Bs C U [x]=some args):∃u,args=[u]/\BP γ u (a.eval x):=by
 have h1:=D8 hr ha;cases args with
 |nil=>cases h1
 |cons u us=>
  obtain⟨_,_,e,h2,h3⟩:=h1.M2;cases e;cases us with
  |nil=>exact⟨u,rfl,h2⟩
  |cons _ _=>obtain⟨_,_,e,_⟩:=h3.M2;cases e
def Fj(hr:Db C γ0 w0 γ Z U h a w){x y:Operand}{args:List Aa}(ha:Bs C U [x,y]=some args):∃u v,args=[u,v]/\BP γ u (a.eval x)/\BP γ v (a.eval y):=by
 have h1:=D8 hr ha;cases args with
 |nil=>cases h1
 |cons u us=>
  obtain⟨_,_,e,h2,h3⟩:=h1.M2;cases e;cases us with
  |nil=>cases h3
  |cons v vs=>
   obtain⟨_,_,e,c,b⟩:=h3.M2;cases e;cases vs with
   |nil=>exact⟨u,v,rfl,h2,c⟩
   |cons _ _=>obtain⟨_,_,e,_⟩:=b.M2;cases e
def wz{o:Oper}{op:UnOp}{x:Operand}(he:execOp a.eval o=(do pure (Next.value (<-Op.unary op (a.eval x)))))
  (hr:Db C γ0 w0 γ Z U h a w) {args:List Aa} (ha:Bs C U [x]=some args):Iz C.P γ a o w (.un op) args:=by
 intro u hu;obtain⟨v,rfl,h1⟩:=Hb hr ha;simp only[AH] at hu;obtain⟨r,c,b⟩:=aCV (P:=C.P) (w:=w) h1 hu;exact⟨r,by rw[he];exact E6 c,b⟩
def rB{o:Oper}{src dst:TypeId}{k l:IntKind}{x:Operand}(hs:C.P.underlying src=some (.int l))(hd:C.P.underlying dst=some (.int k))(he:execOp a.eval o=(do pure (Next.value (<-convert src dst (a.eval x)))))
  (hr:Db C γ0 w0 γ Z U h a w) {args:List Aa} (ha:Bs C U [x]=some args):Iz C.P γ a o w (.conv k) args:=by
 intro u hu;obtain⟨v,rfl,h1⟩:=Hb hr ha;simp only[AH] at hu;split at hu;.rename_i e;cases e;cases hu;rw[EK h1] at he;exact⟨_,by rw[he];exact E6 (eK hs hd),rfl⟩
 .cases hu
def me{o:Oper}{src dst:TypeId}{l:IntKind}{x:Operand}(hs:C.P.underlying src=some (.int l))(hd:C.P.underlying dst=some .string)(he:execOp a.eval o=(do pure (Next.value (<-convert src dst (a.eval x)))))
  (hr:Db C γ0 w0 γ Z U h a w) {args:List Aa} (ha:Bs C U [x]=some args):Iz C.P γ a o w .i2s args:=by
 intro u hu;obtain⟨v,rfl,h1⟩:=Hb hr ha;simp only[AH] at hu;split at hu;.rename_i e;cases e;cases hu;rw[EK h1] at he;exact⟨_,by rw[he];exact E6 (eM hs hd),rfl⟩
 .cases hu
def mB{o:Oper}{t:TypeId}{x:Operand}{f off:Nat}{sh:Option Nat}(hf:IZ C.P t f=some (off,sh))(he:execOp a.eval o=(do pure (Next.value (<-Instr.field t (a.eval x) f))))
  (hr:Db C γ0 w0 γ Z U h a w) {args:List Aa} (ha:Bs C U [x]=some args):Iz C.P γ a o w (.part off sh) args:=by
 intro u hu;obtain⟨v,rfl,h1⟩:=Hb hr ha;simp only[AH] at hu;split at hu;.rename_i e;cases e;obtain⟨r,c,b⟩:=l_ (w:=w) hf h1 hu;exact⟨r,by rw[he];exact E6 c,b⟩
 .cases hu
def V8{o:Oper}{t:TypeId}{x:Operand}{f off:Nat}{sh:Option Nat}(hf:IZ C.P t f=some (off,sh))(he:execOp a.eval o=(do pure (Next.value (<-Instr.fieldAt t (a.eval x) f))))
  (hr:Db C γ0 w0 γ Z U h a w) {args:List Aa} (ha:Bs C U [x]=some args):Iz C.P γ a o w (.Gr off) args:=by
 intro u hu;obtain⟨v,rfl,h1⟩:=Hb hr ha;simp only[AH] at hu;obtain⟨r,c,b⟩:=mA (w:=w) hf h1 hu;exact⟨r,by rw[he];exact E6 c,b⟩
def mf{o:Oper}{x:Operand}{i:Nat}(he:execOp a.eval o=(do pure (Next.value (<-Instr.extract (a.eval x) i))))
  (hr:Db C γ0 w0 γ Z U h a w) {args:List Aa} (ha:Bs C U [x]=some args):Iz C.P γ a o w (.ext i) args:=by
 intro u hu;obtain⟨v,rfl,h1⟩:=Hb hr ha;simp only[AH] at hu;split at hu;.rename_i e;cases e;obtain⟨r,c,b⟩:=Ŋ (P:=C.P) (w:=w) h1 hu;exact⟨r,by rw[he];exact E6 c,b⟩
 .cases hu
def V9{o:Oper}{t:TypeId}{x y:Operand}(ht:C.P.underlying t=some .string)(he:execOp a.eval o=(do pure (Next.value (<-Instr.index t (a.eval x) (a.eval y)))))
  (hr:Db C γ0 w0 γ Z U h a w) {args:List Aa} (ha:Bs C U [x,y]=some args):Iz C.P γ a o w .VX args:=by
 intro u hu;obtain⟨p,q,rfl,h1,h2⟩:=Fj hr ha;simp only[AH] at hu;split at hu
 .rename_i e;cases e;split at hu
  .rename_i s k i h0;cases hb:s[i.toNat]? with
   |none=>rw[hb] at hu;cases hu
   |some b=>rw[hb] at hu;cases hu;rw[Pb h1,EK h2] at he;exact⟨_,by rw[he];exact E6 (ZP ht h0 hb),rfl⟩
  .cases hu
 .cases hu
def Wa{o:Oper}{t e:TypeId}{len n:Nat}{sh:Option Nat}{x y:Operand}(ht:C.P.underlying t=some (.array len e))(hn:B0 C.P e=some n)(qF:FE C.P e=some sh)(he:execOp a.eval o=(do pure (Next.value (<-Instr.index t (a.eval x) (a.eval y)))))
  (hr:Db C γ0 w0 γ Z U h a w) {args:List Aa} (ha:Bs C U [x,y]=some args):Iz C.P γ a o w (.aCL len n sh) args:=by
 intro u hu;obtain⟨p,q,rfl,h1,h2⟩:=Fj hr ha;simp only[AH] at hu;split at hu
 .rename_i e;cases e;rename_i cs k i;cases hb:MX i len with
  |none=>rw[hb] at hu;cases hu
  |some j=>rw[hb] at hu;simp only[Cw] at hu;rw[EK h2] at he;obtain⟨r,c,b⟩:=ZO (w:=w) (k:=k) ht hn qF h1 hb hu;exact⟨r,by rw[he];exact E6 c,b⟩
 .cases hu
def XH{o:Oper}{t e:TypeId}{n:Nat}{x y:Operand}(ht:C.P.underlying t=some (.slice e))(hn:B0 C.P e=some n)(he:execOp a.eval o=(do pure (Next.value (<-Instr.indexAt t (a.eval x) (a.eval y)))))
  (hr:Db C γ0 w0 γ Z U h a w) {args:List Aa} (ha:Bs C U [x,y]=some args):Iz C.P γ a o w (.GY n) args:=by
 intro u hu;obtain⟨p,q,rfl,h1,h2⟩:=Fj hr ha;simp only[AH] at hu;split at hu;.rename_i e;cases e;rename_i k i;rw[EK h2] at he;obtain⟨r,c,b⟩:=qY (w:=w) (k:=k) ht hn h1 hu;exact⟨r,by rw[he];exact E6 c,b⟩
 .cases hu
def ZR{o:Oper}{t e:TypeId}{len n:Nat}{x y:Operand}(ht:C.P.underlying t=some (.array len e))(hn:B0 C.P e=some n)(he:execOp a.eval o=(do pure (Next.value (<-Instr.indexAt t (a.eval x) (a.eval y)))))
  (hr:Db C γ0 w0 γ Z U h a w) {args:List Aa} (ha:Bs C U [x,y]=some args):Iz C.P γ a o w (.Vh len n) args:=by
 intro u hu;obtain⟨p,q,rfl,h1,h2⟩:=Fj hr ha;simp only[AH] at hu;split at hu
 .rename_i e;cases e;rename_i k i;cases hb:MX i len with
  |none=>rw[hb] at hu;cases hu
  |some j=>rw[hb] at hu;simp only[Cw] at hu;rw[EK h2] at he;obtain⟨r,c,b⟩:=ma (w:=w) (k:=k) ht hn h1 hb hu;exact⟨r,by rw[he];exact E6 c,b⟩
 .cases hu
def Vm{o:Oper}{t:TypeId}{x:Operand}{lo hi:Option Operand}{isStr:Bool}{size:Nat}(ht:if isStr=true then C.P.underlying t=some .string else∃e,C.P.underlying t=some (.slice e)/\B0 C.P e=some size)
  (he:execOp a.eval o=(do pure (Next.value (<-Instr.sliceAt t (a.eval x) (lo.map a.eval) (hi.map a.eval) none))))
  (hr:Db C γ0 w0 γ Z U h a w) {args:List Aa} (ha:Bs C U (x::(lo.toList++hi.toList))=some args):Iz C.P γ a o w (.Rb size isStr lo.isSome hi.isSome) args:=by
 intro u hu;have h1:=D8 hr ha;cases args with
 |nil=>cases h1
 |cons s as=>obtain⟨_,_,e,h2,h3⟩:=h1.M2;cases e;simp only[AH] at hu;obtain⟨r,c,b⟩:=ŋ (P:=C.P) (w:=w) (lo:=lo.map a.eval) (hi:=hi.map a.eval) ht h2 (by cases lo<;>cases hi<;>simpa using h3) (by simpa using hu);exact⟨r,by rw[he];exact E6 c,b⟩
def mC{o:Oper}{t:TypeId}{parts:Array (Nat×Operand)}{z:Aa}{ps:List (Nat×Nat)}(hz:Hq C.P t=some z)(hp:KE C.P t parts.toList=some ps)(hb:WA C.P t=true)
  (he:execOp a.eval o=(do pure (Next.value (<-Instr.build t (parts.map λ(i,x)=>(i,a.eval x))))))
  (hr:Db C γ0 w0 γ Z U h a w) {args:List Aa} (ha:Bs C U (parts.toList.map (·.2))=some args):Iz C.P γ a o w (.C7 z.cells ps) args:=by
 intro u hu;obtain⟨r,c,b⟩:=mb (w:=w) hz hp hb (D8 hr ha) hu;exact⟨r,by rw[he];exact E6 c,b⟩
def eR{o:Oper}{x:Operand}(ho:o.op= .nilCheck x)(hr:Db C γ0 w0 γ Z U h a w){args:List Aa}(ha:Bs C U [x]=some args):Iz C.P γ a o w .MW args:=by
 intro u hu;obtain⟨v,rfl,h1⟩:=Hb hr ha;simp only[AH,lP] at hu;split at hu;.rename_i p;cases hu;obtain⟨i,k⟩:=p;obtain⟨b,hb,hv⟩:=h1;exact⟨_,by simp only[execOp,ho,hv];rfl,b,hb,rfl⟩
 .cases hu;obtain⟨b,k,hv,hm⟩:=h1;exact⟨_,by simp only[execOp,ho,hv];rfl,b,k,rfl,hm⟩
 .cases hu;obtain⟨fs,cs,hv,p,q⟩:=h1;exact⟨_,by simp only[execOp,ho,hv];rfl,fs,cs,rfl,p,q⟩
 .cases hu
def N6:∀{xs:List Operand} {us:List Aa},Bs C U xs=some us->us.length=xs.length
 |[],us,h=>by cases h;rfl
 |x::xs,us,h=>by
  unfold Bs at h;split at h;.rename_i u DR h1 h2;cases h;simp[N6 h2]
  .cases h
def Pe{P:Program}{o:Oper}{c:Call}{b:Builtin}{s:Sem Value}(ho:o.op= .call c)(hc:c.callee= .builtin b)(hs:builtin b c.argTypes o.type (c.args.map λ| .const _=>true|_=>false) (c.args.map a.eval)=(do pure (Next.value (<-s)))){v:Value}
  (hv:s.run P w= .ok v w):(execOp a.eval o).run P w= .ok (.value v) w:=by
 have:execOp a.eval o=(do pure (Next.value (<-s))):=by rw[<-hs];simp only[execOp,ho,resolve,hc];rfl
 rw[this];exact E6 hv
def bJ{o:Oper}{c:Call}{t:TypeId}{isStr:Bool}(ho:o.op= .call c)(hc:c.callee= .builtin .len)(h0:c.argTypes[0]?=some t)(ht:if isStr=true then C.P.underlying t=some .string else∃e,C.P.underlying t=some (.slice e))
  (hr:Db C γ0 w0 γ Z U h a w) {args:List Aa} (ha:Bs C U c.args.toList=some args):Iz C.P γ a o w (.len isStr) args:=by
 intro u hu;simp only[AH] at hu;split at hu
 .rename_i s;have hl:=N6 ha;obtain⟨x,hx⟩:∃x,c.args.toList=[x]:=aGX.1 hl.symm;rw[hx] at ha;obtain⟨_,e,h1⟩:=Hb hr ha;cases e;obtain⟨r,d,b⟩:=ŉ (P:=C.P) (w:=w) (ty:=o.type) ht h0 h1 hu;have e:c.args.map a.eval=#[a.eval x]:=by apply HV;simp[hx]
  exact⟨r,Pe ho hc (s:=Builtin.len_ c.argTypes o.type #[a.eval x]) (by rw[e];rfl) d,b⟩
 .cases hu
def Td{o:Oper}{c:Call}{isMax:Bool}(ho:o.op= .call c)(hc:c.callee= .builtin (if isMax then .max else .min))(hr:Db C γ0 w0 γ Z U h a w){args:List Aa}(ha:Bs C U c.args.toList=some args):Iz C.P γ a o w (.Mr isMax) args:=by
 intro u hu;simp only[AH] at hu;split at hu
 .rename_i k p l q;split at hu
  .rename_i hk;subst hk;cases hu;have hl:=N6 ha;obtain⟨x,y,hx⟩:∃x y,c.args.toList=[x,y]:=by
    cases hq:c.args.toList with
    |nil=>rw[hq] at hl;simp at hl
    |cons x xs=>cases xs with
     |nil=>rw[hq] at hl;simp at hl
     |cons y ys=>cases ys with
      |nil=>exact⟨x,y,rfl⟩
      |cons _ _=>rw[hq] at hl;simp at hl
   rw[hx] at ha;obtain⟨_,_,e,h1,h2⟩:=Fj hr ha;cases e;have e:c.args.map a.eval=#[.int k p,.int k q]:=by apply HV;simp[hx,EK h1,EK h2]
   cases isMax with
   |true=>exact⟨_,Pe ho hc (s:=Builtin.max_ c.argTypes o.type #[.int k p,.int k q]) (by rw[e];rfl) (by simp[Builtin.max_,Builtin.max2]),rfl⟩
   |false=>exact⟨_,Pe ho hc (s:=Builtin.min_ c.argTypes o.type #[.int k p,.int k q]) (by rw[e];rfl) (by simp[Builtin.min_,Builtin.min2]),rfl⟩
  .cases hu
 .cases hu
end
end Go.Am
end
section
namespace Go.Am
open Go
section
variable{C:Gj}{γ0 γ:Gh}{w0 w:World}{Z:Nat->Nat}{U:BR}{h:Ai}{a:Act}{fid:FuncId}{ops:List Oper}
def NI{x:Operand}{d:Nat}{take:Bool}{r:EW}(h:Lh C U x d take=some r):∃ws,r= .pure ws:=by
 unfold Lh at h;split at h;.cases h;exact⟨_,rfl⟩
 .cases h;exact⟨_,rfl⟩
 .split at h;.cases h;exact⟨_,rfl⟩
  .cases hc:I0 _ with
   |none=>rw[hc] at h;cases h
   |some s=>rw[hc] at h;cases h;exact⟨_,rfl⟩
 .cases hc:I0 _ with
  |none=>rw[hc] at h;cases h
  |some s=>rw[hc] at h;cases h;exact⟨_,rfl⟩
 .cases h
def bK{t:TypeId}{v:Aa}{d:Nat}{p:ZG}{args:List Aa}{dst:Option Nat}{BT:Bool}{b:Option (Nat×Aa)}:Vi C fid t v d≠some (.op p args dst BT b):=by
 unfold Vi;intro h;split at h;.cases h
 .split at h;.cases h
  .split at h<;>cases h
def rC{t:TypeId}{x:Operand}{d:Nat}{take:Bool}{p:ZG}{args:List Aa}{dst:Option Nat}{BT:Bool}{b:Option (Nat×Aa)}:Ms C U t x d take≠some (.op p args dst BT b):=by
 unfold Ms;intro h;split at h;.cases h
 .split at h;.simp only at h;split at h<;>cases h
  .cases h
 .split at h<;>cases h
 .cases h
def mD{t:TypeId}{x y:Operand}{p:ZG}{args:List Aa}{dst:Option Nat}{BT:Bool}{b:Option (Nat×Aa)}:J0 C U t x y≠some (.op p args dst BT b):=by
 unfold J0;intro h;split at h;.cases h
 .split at h<;>cases h
 .cases h
def mg{o:Oper}{p:ZG}{args:List Aa}{dst:Option Nat}{BT:Bool}{j:Option (Nat×Aa)}(hc:Gu C fid ops U o=some (.op p args dst BT j))(JM:p.still=true)(hr:Db C γ0 w0 γ Z U h a w):
  Iz C.P γ a o w p args/\dst=o.dst/\BT=false/\j=none:=by
 unfold Gu at hc
 split at hc
 .split at hc
  .obtain⟨ws,e⟩:=NI hc;cases e
  .cases hc
 .split at hc
  .obtain⟨ws,e⟩:=NI hc;cases e
  .cases hc
 .rename_i c x y ho
  split at hc
  .obtain⟨ws,e⟩:=NI hc;cases e
  .obtain⟨ws,e⟩:=NI hc;cases e
  .obtain⟨as,g,b⟩:=D9 hc
   cases b
   exact⟨rA ho hr g,rfl,rfl,rfl⟩
 .split at hc
  .split at hc
   .split at hc<;>cases hc
   .exact absurd hc bK
  .cases hc
 .split at hc
  .exact absurd hc bK
  .cases hc
 .rename_i t parts ho
  split at hc
  .rename_i z ps hz hp
   split at hc
   .rename_i hb
    obtain⟨as,g,b⟩:=D9 hc
    cases b
    exact⟨mC hz hp hb (by simp[execOp,ho]) hr g,rfl,rfl,rfl⟩
   .cases hc
  .cases hc
 .split at hc
  .split at hc
   .split at hc
    .split at hc
     .cases hc;cases JM
     .cases hq:Bs C U _ with
      |none=>rw[hq] at hc;cases hc
      |some q=>rw[hq] at hc;cases hc;cases JM
    .cases hc
   .cases hc
  .cases hc
 .split at hc
  .exact absurd hc rC
  .cases hc
 .split at hc
  .exact absurd hc mD
  .cases hc
 .rename_i x ho
  split at hc
  .cases hc
  .cases hc
  .obtain⟨as,g,b⟩:=D9 hc
   cases b
   exact⟨eR ho hr g,rfl,rfl,rfl⟩
 .rename_i op t x y k ho
  split at hc
  .rename_i q hq
   obtain⟨as,g,b⟩:=D9 hc
   cases b
   exact⟨mc hq (by simp[execOp,ho]) hr g,rfl,rfl,rfl⟩
  .cases hc
 .rename_i op t x ho
  obtain⟨as,g,b⟩:=D9 hc
  cases b
  exact⟨wz (by simp[execOp,ho]) hr g,rfl,rfl,rfl⟩
 .rename_i src aL3 x ho
  split at hc
  .cases hq:Fa C U x with
   |none=>rw[hq] at hc;cases hc
   |some q=>rw[hq] at hc;cases hc
  .split at hc
   .cases hq:Fa C U x with
    |none=>rw[hq] at hc;cases hc
    |some q=>rw[hq] at hc;cases hc
   .obtain⟨as,g,b⟩:=D9 hc
    cases b;cases JM
  .rename_i q Te lD hq
   obtain⟨as,g,b⟩:=D9 hc
   cases b
   refine⟨?_,rfl,rfl,rfl⟩
   unfold Xt at hq
   split at hq
   .rename_i hs hd
    cases hq
    exact rB hs hd (by simp[execOp,ho]) hr g
   .rename_i hs hd
    cases hq
    exact me hs hd (by simp[execOp,ho]) hr g
   .cases hq
   .split at hq
    .cases hq;cases JM
    .cases hq
   .split at hq
    .cases hq;cases JM
    .cases hq
   .cases hq
  .cases hc
 .split at hc
  .cases hc
  .cases hc
 .cases hc
 .split at hc
  .split at hc<;>cases hc
  .cases hc
 .split at hc
  .split at hc<;>cases hc
  .cases hc
 .split at hc
  .split at hc<;>cases hc
  .cases hc
 .split at hc
  .split at hc<;>cases hc
  .cases hc
 .split at hc
  .split at hc
   .exact absurd hc L0
   .cases hc
  .cases hc
 .split at hc
  .cases hc
  .exact absurd hc L0
  .cases hc
 .split at hc
  .split at hc<;>first|exact absurd hc L0|cases hc
  .cases hc
 .split at hc
  .exact absurd hc L0
  .cases hc
 .rename_i t x lo hi ho
  split at hc
  .rename_i ht
   obtain⟨as,g,b⟩:=D9 hc
   cases b
   exact⟨Vm (isStr:=true) ht (by simp[execOp,ho]) hr g,rfl,rfl,rfl⟩
  .rename_i e ht
   split at hc
   .rename_i n hn
    split at hc
    .exact absurd hc L0
    .obtain⟨as,g,b⟩:=D9 hc
     cases b
     exact⟨Vm (isStr:=false) ⟨e,ht,hn⟩ (by simp[execOp,ho]) hr g,rfl,rfl,rfl⟩
   .cases hc
  .cases hc
 .rename_i t x f ho
  split at hc
  .rename_i off sh d hf hd
   split at hc
   .cases hc
   .cases hc
   .obtain⟨as,g,b⟩:=D9 hc
    cases b
    exact⟨V8 hf (by simp[execOp,ho]) hr g,hd.symm,rfl,rfl⟩
  .cases hc
 .rename_i t x f ho
  split at hc
  .rename_i off sh hf
   obtain⟨as,g,b⟩:=D9 hc
   cases b
   exact⟨mB hf (by simp[execOp,ho]) hr g,rfl,rfl,rfl⟩
  .cases hc
 .rename_i t x i ho
  split at hc
  .rename_i e ht
   split at hc
   .rename_i n hn
    obtain⟨as,g,b⟩:=D9 hc
    cases b
    exact⟨XH ht hn (by simp[execOp,ho]) hr g,rfl,rfl,rfl⟩
   .cases hc
  .rename_i len e ht
   split at hc
   .rename_i n hn
    split at hc
    .cases hc
    .obtain⟨as,g,b⟩:=D9 hc
     cases b
     exact⟨ZR ht hn (by simp[execOp,ho]) hr g,rfl,rfl,rfl⟩
   .cases hc
  .cases hc
 .rename_i t x i ho
  split at hc
  .rename_i ht
   obtain⟨as,g,b⟩:=D9 hc
   cases b
   exact⟨V9 ht (by simp[execOp,ho]) hr g,rfl,rfl,rfl⟩
  .rename_i len e ht
   split at hc
   .rename_i n sh hn qF
    obtain⟨as,g,b⟩:=D9 hc
    cases b
    exact⟨Wa ht hn qF (by simp[execOp,ho]) hr g,rfl,rfl,rfl⟩
   .cases hc
  .cases hc
 .rename_i x i ho
  obtain⟨as,g,b⟩:=D9 hc
  cases b
  exact⟨mf (by simp[execOp,ho]) hr g,rfl,rfl,rfl⟩
 .rename_i c ho
  unfold Sb at hc
  split at hc
  .rename_i hcl
   split at hc
   .rename_i t h0
    split at hc
    .rename_i ht
     obtain⟨as,g,b⟩:=D9 hc
     cases b
     exact⟨bJ (isStr:=true) ho hcl h0 ht hr g,rfl,rfl,rfl⟩
    .rename_i e ht
     obtain⟨as,g,b⟩:=D9 hc
     cases b
     exact⟨bJ (isStr:=false) ho hcl h0 ⟨e,ht⟩ hr g,rfl,rfl,rfl⟩
    .cases hc
   .cases hc
  .split at hc
   .split at hc
    all_goals first
     |(cases hc;done)
     | (split at hc
        . split at hc
          . split at hc
            . split at hc
              . split at hc
                . cases hc
                . split at hc
                  . cases hc
                  . cases hc; cases JM
              . split at hc <;> cases hc
            . cases hc
          . cases hc
        . cases hc)
   .cases hc
  .split at hc
   .split at hc
    all_goals first
     |(cases hc;done)
     | (split at hc
        . exact absurd hc L0
        . cases hc)
   .cases hc
  .split at hc
   .split at hc
    .split at hc
     .exact absurd hc L0
     .cases hc
    .cases hc
   .cases hc
  .rename_i hcl
   split at hc
   .obtain⟨as,g,b⟩:=D9 hc
    cases b
    exact⟨Td (isMax:=true) ho hcl hr g,rfl,rfl,rfl⟩
   .cases hc
  .rename_i hcl
   split at hc
   .obtain⟨as,g,b⟩:=D9 hc
    cases b
    exact⟨Td (isMax:=false) ho hcl hr g,rfl,rfl,rfl⟩
   .cases hc
  .split at hc
   .split at hc
    .split at hc
     .exact absurd hc L0
     .cases hc
    .cases hc
   split at hc
   .cases hq:Bs C U c.args.toList with
    |none=>rw[hq] at hc;cases hc
    |some q=>
     rw[hq] at hc
     simp only[BV,BL] at hc
     split at hc<;>cases hc
   .cases hc
  .split at hc<;>cases hc
  .cases hc
 .cases hc
end
end Go.Am
end
