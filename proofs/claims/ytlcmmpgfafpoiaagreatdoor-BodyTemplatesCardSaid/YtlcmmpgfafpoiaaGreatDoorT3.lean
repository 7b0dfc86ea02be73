/- Lemmas -/
import Derived.Test.YtlcmmpgfafpoiaaGreatDoorT2
import Derived.Laws.Slices
set_option linter.all false
section
namespace Go.Am
open Go
section
variable{P:Program}{γ:Gh}{w:World}
def Sg{a:Bool}{v:Value}(h:BR γ (.bool a) v):v= .bool a:=h
def EC{k:IntKind}{a:Int}{v:Value}(h:BR γ (.int k a) v):v= .int k a:=h
def Oj{a:An}{v:Value}(h:BR γ (.str a) v):v= .string ⟨⟨a⟩⟩:=h
def Bj.Y_{us:List Value}(h:Bj γ [] us):us=[]:=h
def Bj.Mn{a:Aa}{l:List Aa}{us:List Value}(h:Bj γ (a::l) us):∃u DR,us=u::DR/\BR γ a u/\Bj γ l DR:=h
def Bj.one{a:Aa}{us:List Value}(h:Bj γ [a] us):∃u,us=[u]/\BR γ a u:=by obtain⟨u,DR,rfl,h1,h2⟩:=h;rw[h2.Y_];exact⟨u,rfl,h1⟩
def Bj.Xf{a b:Aa}{us:List Value}(h:Bj γ [a,b] us):∃u v,us=[u,v]/\BR γ a u/\BR γ b v:=by obtain⟨u,DR,rfl,h1,h2⟩:=h;obtain⟨v,rfl,c⟩:=h2.one;exact⟨u,v,rfl,h1,c⟩
def Bj.Uw{a b c:Aa}{us:List Value}(h:Bj γ [a,b,c] us):∃u v x,us=[u,v,x]/\BR γ a u/\BR γ b v/\BR γ c x:=by obtain⟨u,DR,rfl,h1,h2⟩:=h;obtain⟨v,x,rfl,e,d⟩:=h2.Xf;exact⟨u,v,x,rfl,h1,e,d⟩
def Value.Kl:Value->Bool
 | .bool _| .pointer _| .slice _ _ _| .func _ _ _| .nilFunc| .map _=>true
 |_=>false
def TI{op:BinOp}{neg:Bool}(Oa:(op= .eql/\neg=false)\/(op= .neq/\neg=true))(t:TypeId)(c b:Operand){x y:Value}(hx:Value.Kl x=true)(hy:Value.Kl y=true){e:Bool}
  (he:(Op.equal t x y).run P w= .ok e w):(do eqGuard op t c b x y;binOp op t x y:Sem Value).run P w= .ok (.bool (e != neg)) w:=by
 have hg:eqGuard op t c b x y=pure ():=by rcases Oa with⟨rfl,_⟩|⟨rfl,_⟩<;>cases x<;>simp[Value.Kl] at hx<;>rfl
 rw[hg];rcases Oa with⟨rfl,rfl⟩|⟨rfl,rfl⟩
 .have hb:binOp .eql t x y=(do pure (.bool (<-Op.equal t x y))):=by cases x<;>simp[Value.Kl] at hx<;>cases y<;>simp[Value.Kl] at hy<;>rfl
  simp[hb,he]
 .have hb:binOp .neq t x y=(do pure (.bool (!(<-Op.equal t x y)))):=by cases x<;>simp[Value.Kl] at hx<;>cases y<;>simp[Value.Kl] at hy<;>rfl
  simp[hb,he]
def mB{op:BinOp}{neg:Bool}(Oa:(op= .eql/\neg=false)\/(op= .neq/\neg=true))(t:TypeId)(d c:Operand)(ht:P.underlying t=some .bool)(a b:Bool):
  (do eqGuard op t d c (.bool a) (.bool b);binOp op t (.bool a) (.bool b):Sem Value).run P w= .ok (.bool ((a==b) != neg)) w:=
 TI Oa t d c rfl rfl (run_equalIn_bool' w 9999 t a b ht)
def Vq{d:Nat}{t e:TypeId}(ht:P.underlying t=some (.pointer e))(hz:∃n,B4 P e=some (n+1)){a b:Aa}{x y:Value}(hx:BR γ a x)(hy:BR γ b y){r:Bool}(h:wD a b=some r):
  (Op.equalIn (d+1) t x y).run P w= .ok r w/\Value.Kl x=true/\Value.Kl y=true:=by
 obtain⟨n,hn⟩:=hz;unfold wD at h;split at h
 .rename_i q;cases h;rw[show x= .pointer none from hx];have:∃p,y= .pointer p/\p.isNone=q.isNone:=by
   cases q with
   |none=>exact⟨none,hy,rfl⟩
   |some p=>obtain⟨i,o⟩:=p;obtain⟨b,_,rfl⟩:=hy;exact⟨_,rfl,rfl⟩
  obtain⟨p,rfl,hp⟩:=this;exact⟨by simp[Op.equalIn,run_underlying ht,hp],rfl,rfl⟩
 .rename_i p;cases h;obtain⟨i,o⟩:=p;obtain⟨b,_,rfl⟩:=hx;rw[show y= .pointer none from hy];exact⟨by simp[Op.equalIn,run_underlying ht],rfl,rfl⟩
 .rename_i p q;split at h;.rename_i he;cases h;subst he;obtain⟨i,o⟩:=p;obtain⟨b,hb,rfl⟩:=hx;obtain⟨b',Qh,rfl⟩:=hy;rw[hb] at Qh;cases Qh;exact⟨by simp[Op.equalIn,run_underlying ht,DU hn,sameAddr],rfl,rfl⟩
  .cases h
 .cases h;rw[show x= .pointer none from hx];obtain⟨b,o,rfl,_⟩:=hy;exact⟨by simp[Op.equalIn,run_underlying ht],rfl,rfl⟩
 .cases h;rw[show y= .pointer none from hy];obtain⟨b,o,rfl,_⟩:=hx;exact⟨by simp[Op.equalIn,run_underlying ht],rfl,rfl⟩
 .cases h
def EO{d:Nat}{t e:TypeId}(ht:P.underlying t=some (.slice e)){p q:Option Addr}{n c m k:Nat}(h:p=none\/q=none):
  (Op.equalIn (d+1) t (.slice p n c) (.slice q m k)).run P w= .ok (p.isNone&&q.isNone) w:=by
 cases p<;>cases q<;>simp at h<;>simp[Op.equalIn,run_underlying ht]
def Mo{d:Nat}{t:TypeId}{a b:Array TypeId}{c:Bool}(ht:P.underlying t=some (.func a b c)){f:Fn}{x y:Array Value}:
  (Op.equalIn (d+1) t .nilFunc .nilFunc).run P w= .ok true w/\(Op.equalIn (d+1) t .nilFunc (.func f x y)).run P w= .ok false w/\(Op.equalIn (d+1) t (.func f x y) .nilFunc).run P w= .ok false w:=by
 refine⟨?_,?_,?_⟩<;>simp[Op.equalIn,run_underlying ht]
def LN{d:Nat}{t k e:TypeId}(ht:P.underlying t=some (.map k e)){p q:Option Nat}(h:p=none\/q=none):
  (Op.equalIn (d+1) t (.map p) (.map q)).run P w= .ok (p.isNone&&q.isNone) w:=by
 cases p<;>cases q<;>simp at h<;>simp[Op.equalIn,run_underlying ht]
def Vr{d:Nat}{t:TypeId}{k:NK}(ht:match k with| .sl=>∃e,P.underlying t=some (.slice e)| .fn=>∃a b c,P.underlying t=some (.func a b c)| .mp=>∃a b,P.underlying t=some (.map a b))
  {a b:Aa} {x y:Value} (hx:BR γ a x) (hy:BR γ b y) {r:Bool} (h:wE k a b=some r):
  (Op.equalIn (d+1) t x y).run P w= .ok r w/\Value.Kl x=true/\Value.Kl y=true:=by
 unfold wE at h;split at h;case h_1=>obtain⟨e,ht⟩:=ht;cases h;rw[show x= .slice none 0 0 from hx,show y= .slice none 0 0 from hy];exact⟨EO ht (.inl rfl),rfl,rfl⟩
 case h_2=>obtain⟨e,ht⟩:=ht;cases h;rw[show x= .slice none 0 0 from hx];obtain⟨_,_,rfl,_⟩:=hy;exact⟨EO ht (.inl rfl),rfl,rfl⟩
 case h_3=>obtain⟨e,ht⟩:=ht;cases h;rw[show y= .slice none 0 0 from hy];obtain⟨_,_,rfl,_⟩:=hx;exact⟨EO ht (.inr rfl),rfl,rfl⟩
 case h_4=>obtain⟨e,ht⟩:=ht;cases h;rw[show x= .slice none 0 0 from hx];obtain⟨_,rfl⟩:=hy;exact⟨EO ht (.inl rfl),rfl,rfl⟩
 case h_5=>obtain⟨e,ht⟩:=ht;cases h;rw[show y= .slice none 0 0 from hy];obtain⟨_,rfl⟩:=hx;exact⟨EO ht (.inr rfl),rfl,rfl⟩
 case h_6=>obtain⟨e,ht⟩:=ht;cases h;rw[show x= .slice none 0 0 from hx];obtain⟨_,_,_,rfl,_⟩:=hy;exact⟨EO ht (.inl rfl),rfl,rfl⟩
 case h_7=>obtain⟨e,ht⟩:=ht;cases h;rw[show y= .slice none 0 0 from hy];obtain⟨_,_,_,rfl,_⟩:=hx;exact⟨EO ht (.inr rfl),rfl,rfl⟩
 case h_8=>obtain⟨_,_,_,ht⟩:=ht;cases h;rw[show x= .nilFunc from hx,show y= .nilFunc from hy];exact⟨(Mo ht (f:= .func 0) (x:=#[]) (y:=#[])).1,rfl,rfl⟩
 case h_9=>obtain⟨_,_,_,ht⟩:=ht;cases h;rw[show x= .nilFunc from hx];obtain⟨_,_,rfl,_⟩:=hy;exact⟨(Mo ht).2.1,rfl,rfl⟩
 case h_10=>obtain⟨_,_,_,ht⟩:=ht;cases h;rw[show y= .nilFunc from hy];obtain⟨_,_,rfl,_⟩:=hx;exact⟨(Mo ht).2.2,rfl,rfl⟩
 case h_11=>
  rename_i q;obtain⟨_,_,ht⟩:=ht;cases h;rw[show x= .map none from hx];cases q with
  |none=>rw[show y= .map none from hy];exact⟨LN ht (.inl rfl),rfl,rfl⟩
  |some id=>obtain⟨b,_,rfl⟩:=hy;exact⟨LN ht (.inl rfl),rfl,rfl⟩
 case h_12=>obtain⟨_,_,ht⟩:=ht;cases h;rw[show y= .map none from hy];obtain⟨b,_,rfl⟩:=hx;exact⟨LN ht (.inr rfl),rfl,rfl⟩
 .cases h
def fh{op:BinOp}{args:List Aa}{u:Aa}(h:AB (.int op) args=some u):∃k a l b,args=[.int k a,.int l b]/\wC op k a l b=some u:=by
 simp only[AB] at h;split at h;.exact⟨_,_,_,_,rfl,h⟩
 .cases h
def fj{op:BinOp}{args:List Aa}{u:Aa}(h:AB (.str op) args=some u):∃a b,args=[.str a,.str b]/\lR op a b=some u:=by
 simp only[AB] at h;split at h;.exact⟨_,_,rfl,h⟩
 .cases h
def mC{op:BinOp}{t:TypeId}{p:RZ}(hp:Qf P op t=some p)(f c:Operand){args:List Aa}{x y:Value}(ha:Bj γ args [x,y]){u:Aa}(h:AB p args=some u):
  ∃v,(do eqGuard op t f c x y;binOp op t x y:Sem Value).run P w= .ok v w/\BR γ u v:=by
 unfold Qf at hp;split at hp;.cases hp;obtain⟨k,a,l,b,rfl,h⟩:=fh h;obtain⟨_,_,e,hx,hy⟩:=ha.Xf;cases e;rw[EC hx,EC hy];exact lW t f c h
 .cases hp;obtain⟨a,b,rfl,h⟩:=fj h;obtain⟨_,_,e,hx,hy⟩:=ha.Xf;cases e;rw[Oj hx,Oj hy];exact lX t f c h
 .rename_i d h1 h2 hu;obtain⟨neg,Oa,g⟩:∃neg,((op= .eql/\neg=false)\/(op= .neq/\neg=true))/\Tz P t neg d=some p:=by cases op<;>first|cases hp;done|exact⟨false,.inl ⟨rfl,rfl⟩,hp⟩|exact⟨true,.inr ⟨rfl,rfl⟩,hp⟩
  clear h1 h2 hp;have hp:=g;clear g;unfold Tz at hp;split at hp
  .cases hp;simp only[AB] at h;split at h;.obtain⟨_,_,e,hx,hy⟩:=ha.Xf;cases e;cases h;rw[Sg hx,Sg hy];exact⟨_,mB Oa t f c hu _ _,rfl⟩
   .cases h
  .split at hp
   .rename_i hg;cases hk:Pp P 20 t with
    |none=>rw[hk] at hp;cases hp
    |some ks=>
     rw[hk] at hp;cases hp;simp only[AB] at h;split at h;.obtain⟨_,_,e,hx,hy⟩:=ha.Xf;cases e;exact mA Oa hg hk ⟨_,hu⟩ hx hy h
     .cases h
   .cases hp
  .split at hp;.cases hp
   .rename_i e hz;cases hp;simp only[AB] at h;split at h
    .rename_i a b;obtain⟨_,_,e,hx,hy⟩:=ha.Xf;cases e;cases hq:wD a b with
     |none=>rw[hq] at h;cases h
     |some r=>rw[hq] at h;cases h;obtain⟨m,j,i⟩:=Vq (w:=w) (d:=9999) hu (by cases Zt:B4 P e with|none=>rw[Zt] at hz;exact absurd rfl hz|some n=>cases n with|zero=>rw[Zt] at hz;exact absurd rfl hz|succ n=>exact⟨n,rfl⟩) hx hy hq;exact⟨_,TI Oa t f c j i m,rfl⟩
    .cases h
  all_goals first
   |cases hp;done
   | (cases hp
      simp only [AB] at h
      split at h
      . rename_i a b
        obtain ⟨_, _, e, hx, hy⟩ := ha.Xf
        cases e
        cases hq : wE _ a b with
        | none => rw [hq] at h; cases h
        | some r =>
          rw [hq] at h; cases h
          obtain ⟨m, j, i⟩ := Vr (w := w) (P := P) (t := t) (d := 9999) (by first | exact ⟨_, hu⟩ | exact ⟨_, _, hu⟩ | exact ⟨_, _, _, hu⟩) hx hy hq
          exact ⟨_, TI Oa t f c j i m, rfl⟩
      . cases h)
 .cases hp
end
end Go.Am
end
section
namespace Go.Am
open Go
section
variable{P:Program}{γ:Gh}{w:World}
def aBS{op:UnOp}{a u:Aa}{x:Value}(hx:BR γ a x)(h:aBI op a=some u):∃v,(Op.unary op x).run P w= .ok v w/\BR γ u v:=by
 unfold aBI at h;split at h;.cases h;rw[Sg hx];exact⟨_,rfl,rfl⟩
 .cases h;rw[EC hx];exact⟨_,rfl,rfl⟩
 .rename_i k n;rw[EC hx];unfold aAh at h;cases hs:Qd (Op.unary .xor (.int k n)) with
  |none=>rw[hs] at h;cases h
  |some v=>
   rw[hs] at h;have b:=Xd hs;simp only[Cm] at h;split at h;.cases h;exact⟨_,by rw[b];rfl,rfl⟩
   .cases h
 .cases h
def cU{src dst:TypeId}{k l k':IntKind}{n:Int}(hs:P.underlying src=some (.int l))(hd:P.underlying dst=some (.int k)):(convert src dst (.int k' n)).run P w= .ok (.int k (k.wrap n)) w:=by simp[convert,run_underlying hs,run_underlying hd,Conv.intToInt]
def cV{src dst:TypeId}{l k':IntKind}{n:Int}(hs:P.underlying src=some (.int l))(hd:P.underlying dst=some .string):(convert src dst (.int k' n)).run P w= .ok (.string (Utf8.encode n)) w:=by simp[convert,run_underlying hs,run_underlying hd,Conv.intToString]
def fk{t:TypeId}{f off:Nat}{sh:Option Nat}(hf:Iy P t f=some (off,sh)){cs:List Aa}{x:Value}(hx:BR γ (.agg cs) x){u:Aa}(h:Fv cs off sh=some u):∃v,(Instr.field t x f).run P w= .ok v w/\BR γ u v:=by
 unfold Iy at hf;split at hf
 .rename_i fs hu;split at hf
  .rename_i fd wX;split at hf;.rename_i n b h1 h2;cases hf;obtain⟨us,rfl,hr,h1c⟩:=hx;obtain⟨v,p,q⟩:=lY (w:=w) h2 hr h1c h;exact⟨v,by simp[Instr.field,run_underlying hu,wX,asAgg,p],q⟩
   .cases hf
  .cases hf
 .cases hf
def Rn{i:Int}{len j:Nat}(h:Mi i len=some j):0<=i/\i<len/\i.toNat=j:=by
 unfold Mi at h;split at h;.rename_i hc;cases h;exact⟨hc.1,hc.2,rfl⟩
 .cases h
def Zu{t e:TypeId}{len n:Nat}{sh:Option Nat}(ht:P.underlying t=some (.array len e))(hn:B4 P e=some n)(qE:Fq P e=some sh){cs:List Aa}{x:Value}(hx:BR γ (.agg cs) x){k:IntKind}{i:Int}{j:Nat}
  (hi:Mi i len=some j) {u:Aa} (h:Fv cs (j*n) sh=some u):∃v,(Instr.index t x (.int k i)).run P w= .ok v w/\BR γ u v:=by
 obtain⟨us,rfl,hr,h1c⟩:=hx;obtain⟨d,c,b⟩:=Rn hi;obtain⟨v,p,q⟩:=lY (w:=w) qE hr h1c h;exact⟨v,by simp[Instr.index,asIntOf,run_underlying ht,d,c,DU hn,b,p],q⟩
def Zv{t:TypeId}(ht:P.underlying t=some .string){s:An}{k:IntKind}{i:Int}{b:UInt8}(h0:0<=i)(h:s[i.toNat]?=some b):
  (Instr.index t (.string ⟨⟨s⟩⟩) (.int k i)).run P w= .ok (.int .u8 b.toNat) w:=by
 obtain⟨hlt,hb⟩:=Al.1 h;have e:(⟨⟨s⟩⟩:ByteArray)[i.toNat]?=some b:=by rw[ByteArray.getElem?_lt' _ _ (show i.toNat<(⟨⟨s⟩⟩:ByteArray).size from hlt),<-hb];rfl
 simp[Instr.index,asIntOf,run_underlying ht,h0,e]
def wY{p u:Aa}{x:Value}{n:Nat}(hx:BR γ p x)(h:WL p n=some u):∃a,x= .pointer (some a)/\BR γ u (.pointer (some (a.add n))):=by
 unfold WL at h;split at h;.rename_i cs;cases h;obtain⟨b,o,rfl,hm⟩:=hx;refine⟨_,rfl,b,o+n,?_,hm.drop n⟩;unfold Addr.add;split<;>simp_all
 .rename_i id o;cases h;obtain⟨b,hb,rfl⟩:=hx;refine⟨_,rfl,b,hb,?_⟩;unfold Addr.add;split<;>simp_all
 .cases h
def mD{t:TypeId}{f off:Nat}{sh:Option Nat}(hf:Iy P t f=some (off,sh)){p u:Aa}{x:Value}(hx:BR γ p x)(h:WL p off=some u):∃v,(Instr.fieldAt t x f).run P w= .ok v w/\BR γ u v:=by
 obtain⟨a,rfl,hu⟩:=wY hx h;refine⟨_,?_,hu⟩;unfold Iy at hf;split at hf
 .rename_i fs wW;split at hf
  .rename_i fd wX;split at hf;.rename_i n b h1 h2;cases hf;simp[Instr.fieldAt,run_underlying wW,wX,Instr.sureAddr,fieldPlace,DU h1]
   .cases hf
  .cases hf
 .cases hf
def rD{t e:TypeId}{n:Nat}(ht:P.underlying t=some (.slice e))(hn:B4 P e=some n){s u:Aa}{x:Value}(hx:BR γ s x){k:IntKind}{i:Int}(h:elemOf n s i=some u):
  ∃v,(Instr.indexAt t x (.int k i)).run P w= .ok v w/\BR γ u v:=by
 have Gm:P.underlying t=some (.slice (P.elem t)):=by simp[Program.elem,ht]
 have he:P.elem t=e:=by simp[Program.elem,ht]
 unfold elemOf at h;split at h
 .rename_i z AD;split at h
  .rename_i hz;subst hz;split at h
   .rename_i h0;cases hr:AD[i.toNat]? with
    |none=>rw[hr] at h;cases h
    |some row=>
     rw[hr] at h;cases h;obtain⟨d,cap,rfl,hc,hsp,hm⟩:=hx;obtain⟨hl,c⟩:=hm.get hr;have hlt:i<AD.length:=by have:=(Al.1 hr).1;omega
     have rE:=Of hsp hc Ab;generalize d.block=b at*;generalize d.off=o at*;subst rE;refine⟨.pointer (some ((⟨b,o,none⟩:Addr).add (i.toNat*z))),by rw[run_indexAt_slice w t _ _ _ _ _ Gm,Af ⟨h0,hlt⟩,he,DU hn];rfl,b,o+i.toNat*z,?_,c⟩;unfold Addr.add;split<;>simp_all
   .cases h
  .cases h
 .rename_i id off len z;split at h
  .rename_i hz;subst hz;cases hj:Mi i len with
   |none=>rw[hj] at h;cases h
   |some j=>rw[hj] at h;cases h;obtain⟨l,g,f⟩:=Rn hj;subst f;obtain⟨b,cap,hb,rfl,hc,hz⟩:=hx;refine⟨.pointer (some ((⟨b,off,none⟩:Addr).add (i.toNat*z))),by rw[run_indexAt_slice w t _ _ _ _ _ Gm,Af ⟨l,g⟩,he,DU hn];rfl,b,hb,?_⟩;unfold Addr.add;split<;>simp_all
  .cases h
 .cases h
def fm{t e:TypeId}{len n:Nat}(ht:P.underlying t=some (.array len e))(hn:B4 P e=some n){p u:Aa}{x:Value}(hx:BR γ p x){k:IntKind}{i:Int}{j:Nat}(hj:Mi i len=some j)(h:WL p (j*n)=some u):
  ∃v,(Instr.indexAt t x (.int k i)).run P w= .ok v w/\BR γ u v:=by
 have Gm:P.underlying t=some (.array (P.arrayLen t) (P.elem t)):=by simp[Program.elem,Program.arrayLen,ht]
 have he:P.elem t=e:=by simp[Program.elem,ht]
 have hl:P.arrayLen t=len:=by simp[Program.arrayLen,ht]
 obtain⟨a,rfl,hu⟩:=wY hx h;obtain⟨d,c,b⟩:=Rn hj;subst b;exact⟨_,by rw[run_indexAt_array w t _ _ _ Gm,hl,Af ⟨d,c⟩,he,DU hn];rfl,hu⟩
def Z_{t ty:TypeId}{isStr:Bool}(ht:if isStr=true then P.underlying t=some .string else∃e,P.underlying t=some (.slice e)){ts:Array TypeId}(cW:ts[0]?=some t){s u:Aa}{x:Value}(hx:BR γ s x)(h:lenOf isStr s=some u):
  ∃v,(Builtin.len_ ts ty #[x]).run P w= .ok v w/\BR γ u v:=by
 cases isStr with
 |true=>
  replace ht:P.underlying t=some .string:=ht;unfold lenOf at h;split at h<;>first|cases h;done|skip
  simp only[BI] at h;cases h;rw[Oj hx];refine⟨_,by simp[Builtin.len_,cW,run_underlying ht];rfl,rfl⟩
 |false=>
  obtain⟨e,ht⟩:∃e,P.underlying t=some (.slice e):=ht;unfold lenOf at h;split at h;.cases h;obtain⟨c,cap,rfl,_⟩:=hx;exact⟨_,by simp[Builtin.len_,cW,run_underlying ht];rfl,rfl⟩
  .cases h;obtain⟨b,cap,_,rfl,_⟩:=hx;exact⟨_,by simp[Builtin.len_,cW,run_underlying ht];rfl,rfl⟩
  .cases h;rw[show x= .slice none 0 0 from hx];exact⟨_,by simp[Builtin.len_,cW,run_underlying ht];rfl,rfl⟩
  .cases h;obtain⟨b,rfl⟩:=hx;exact⟨_,by simp[Builtin.len_,cW,run_underlying ht];rfl,rfl⟩
  .cases h
  .cases h
def À{vs:List Aa}{x:Value}(hx:BR γ (.tuple vs) x){i:Nat}{u:Aa}(h:vs[i]?=some u):∃v,(Instr.extract x i).run P w= .ok v w/\BR γ u v:=by
 obtain⟨us,rfl,hr⟩:=hx;obtain⟨v,hv,q⟩:=hr.get h;exact⟨v,by
  have:us[i]?=some v:=by simpa using hv
  simp[Instr.extract,this],q⟩
end
end Go.Am
end
section
namespace Go.Am
open Go
section
variable{P:Program}{γ:Gh}{w:World}
def Ok{n:Int}{top j:Nat}(h:E6 n top=some j):0<=n/\n<=top/\n.toNat=j:=by
 unfold E6 at h;split at h;.rename_i hc;cases h;exact⟨hc.1,hc.2,rfl⟩
 .cases h
def KT{lo hi:Option Value}{as:List Aa}{len cap l h:Nat}{isSlice:Bool}(hb:D3 lo.isSome hi.isSome len as=some (l,h))(hr:Bj γ as (lo.toList++hi.toList))(hc:len<=cap):
  (Instr.sliceBounds isSlice len cap lo hi none).run P w= .ok (l,h,cap) w/\l<=h/\h<=len:=by
 cases lo<;>cases hi<;>simp only[Option.isSome,D3] at hb
 .split at hb;.cases hb;exact⟨by simp[Instr.sliceBounds],AZ _,Ag _⟩
  .cases hb
 .rename_i hv;split at hb
  .rename_i k h';cases b:E6 h' len with
   |none=>rw[b] at hb;cases hb
   |some j=>rw[b] at hb;cases hb;obtain⟨f,g,d⟩:=Ok b;obtain⟨_,e,hx⟩:=hr.one;cases e;rw[EC hx];refine⟨?_,AZ _,Ab⟩;have:h'<=(cap:Int):=Ab;simp[Instr.sliceBounds,run_sliceBound,f,this,d]
  .cases hb
 .rename_i p;split at hb
  .rename_i k l';cases b:E6 l' len with
   |none=>rw[b] at hb;cases hb
   |some j=>rw[b] at hb;cases hb;obtain⟨f,g,d⟩:=Ok b;obtain⟨_,e,hx⟩:=hr.one;cases e;rw[EC hx];refine⟨?_,Ab,Ag _⟩;simp[Instr.sliceBounds,run_sliceBound,f,g,d]
  .cases hb
 .rename_i p hv;split at hb
  .rename_i k l' k' h';cases b:E6 h' len with
   |none=>rw[b] at hb;cases hb
   |some j=>
    rw[b] at hb;simp only[Cm] at hb;cases c:E6 l' j with
    |none=>rw[c] at hb;cases hb
    |some i=>rw[c] at hb;cases hb;obtain⟨f,g,d⟩:=Ok b;obtain⟨o,n,m⟩:=Ok c;obtain⟨_,_,e,hx,hy⟩:=hr.Xf;cases e;rw[EC hx,EC hy];refine⟨?_,Ab,Ab⟩;have:h'<=(cap:Int):=Ab;simp[Instr.sliceBounds,run_sliceBound,f,this,o,d,m,n]
  .cases hb
def E9.slice{AD:List (List Aa)}{z b o:Nat}(h:E9 γ AD z b o)(l k:Nat):E9 γ ((AD.take k).drop l) z b (o+l*z):=by
 refine E9.Hd λi r hi=>?_;rw[Cr,Cg] at hi;split at hi;.obtain⟨p,q⟩:=h.get hi;exact⟨p,by rw[show o+l*z+i*z=o+(l+i)*z by rw[BJ];omega];exact q⟩
 .cases hi
def Á{t:TypeId}{isStr:Bool}{size:Nat}(ht:if isStr=true then P.underlying t=some .string else∃e,P.underlying t=some (.slice e)/\B4 P e=some size){s u:Aa}{x:Value}(hx:BR γ s x){as:List Aa}{lo hi:Option Value}
  (hr:Bj γ as (lo.toList++hi.toList)) (h:JE size isStr lo.isSome hi.isSome s as=some u):
  ∃v,(Instr.sliceAt t x lo hi none).run P w= .ok v w/\BR γ u v:=by
 unfold JE at h;split at h
 .split at h
  .rename_i s QK;subst QK;replace ht:P.underlying t=some .string:=ht;cases hb:D3 lo.isSome hi.isSome s.length as with
   |none=>rw[hb] at h;cases h
   |some f=>
    obtain⟨l,k⟩:=f;rw[hb] at h;cases h;obtain⟨c,i,g⟩:=KT (P:=P) (w:=w) (isSlice:=false) hb hr (Ag _);rw[Oj hx,run_sliceAt_string w t _ _ _ _ ht];refine⟨.string ((⟨⟨s⟩⟩:ByteArray).extract l k),?_,?_⟩;.have e:(⟨⟨s⟩⟩:ByteArray).size=s.length:=rfl;simp only[Instr.slice,Sem.run_bind,run_underlying ht,Result.andThen_ok];simp only[e,c,Option.isSome,Cu,DG,Sem.run_bind,Sem.run_pure,Result.andThen_ok]
    .show Value.string _=Value.string _;congr 1
     apply ByteArray.ext;apply HD;simp[ByteArray.data_extract,HO,List.drop_take]
  .cases h
 .rename_i z AD;split at h
  .rename_i hc;obtain⟨rfl,rfl⟩:=hc;obtain⟨e,ht,hn⟩:∃e,P.underlying t=some (.slice e)/\B4 P e=some z:=ht;have Gm:P.underlying t=some (.slice (P.elem t)):=by simp[Program.elem,ht]
   have he:P.elem t=e:=by simp[Program.elem,ht]
   obtain⟨d,cap,rfl,hc,hsp,hm⟩:=hx;cases hb:D3 lo.isSome hi.isSome AD.length as with
   |none=>rw[hb] at h;cases h
   |some f=>
    obtain⟨l,k⟩:=f;rw[hb] at h;cases h;obtain⟨c,i,g⟩:=KT (P:=P) (w:=w) (isSlice:=true) hb hr hc;rw[run_sliceAt_slice w t _ _ _ _ Gm,run_slice_any w t _ _ _ Gm,c,he,Result.andThen_ok,DU hn];refine⟨_,rfl,?_⟩;show BR γ (.sl z ((AD.take k).drop l)) (.slice (if cap=l then some d else Option.map (λq:Addr=>q.add (l*z)) (some d)) (k-l) (cap-l));have hlen:((AD.take k).drop l).length=k-l:=D9;by_cases hcl:cap=l;.have:(AD.take k).drop l=[]:=Dw Ab;rw[this];simp only[hcl,BI];exact⟨d,l-l,D9,AH,.inr Ab,trivial⟩
    .rw[Ad hcl];have rE:d=⟨d.block,d.off,none⟩:=by
      rcases hsp with hsp|hsp
      .cases d;simp_all
      .omega
     generalize d.block=b at*;generalize d.off=o at*;subst rE;refine⟨⟨b,o+l*z,none⟩,cap-l,?_,Ab,.inl rfl,hm.slice l k⟩;rw[hlen];simp only[B5];unfold Addr.add;split<;>simp_all
  .cases h
 .rename_i id off n z;split at h
  .rename_i hc;obtain⟨rfl,rfl⟩:=hc;obtain⟨e,ht,hn⟩:∃e,P.underlying t=some (.slice e)/\B4 P e=some z:=ht;have Gm:P.underlying t=some (.slice (P.elem t)):=by simp[Program.elem,ht]
   have he:P.elem t=e:=by simp[Program.elem,ht]
   obtain⟨b,cap,Â,rfl,hc,hz,Lb⟩:=hx;cases hb:D3 lo.isSome hi.isSome n as with
   |none=>rw[hb] at h;cases h
   |some f=>
    obtain⟨l,k⟩:=f;rw[hb] at h;simp only[Cm] at h;split at h
    .rename_i rF;cases h;obtain⟨c,i,g⟩:=KT (P:=P) (w:=w) (isSlice:=true) hb hr hc;rw[run_sliceAt_slice w t _ _ _ _ Gm,run_slice_any w t _ _ _ Gm,c,he,Result.andThen_ok,DU hn];refine⟨_,rfl,b,cap-l,Â,?_,Ab,⟨hz.1,Br (Nat.sub_le _ _) hz.2⟩,?_⟩;.show Value.slice (if cap=l then some ⟨b,off,none⟩ else Option.map (λq:Addr=>q.add (l*z)) (some ⟨b,off,none⟩)) (k-l) (cap-l)=_;rw[Ad Ab];simp only[B5];unfold Addr.add;split<;>simp_all
     .rw[Lb,RP,<-BJ,aKm Ab]
    .rename_i rF;cases h;obtain⟨c,i,g⟩:=KT (P:=P) (w:=w) (isSlice:=true) hb hr hc;rw[run_sliceAt_slice w t _ _ _ _ Gm,run_slice_any w t _ _ _ Gm,c,he,Result.andThen_ok,DU hn];have Qi:k-l=0:=Ab;by_cases hcl:cap=l;.refine⟨_,rfl,⟨b,off,none⟩,cap-l,?_,AH,.inl rfl,trivial⟩;show Value.slice (if cap=l then some ⟨b,off,none⟩ else Option.map (λq:Addr=>q.add (l*z)) (some ⟨b,off,none⟩)) (k-l) (cap-l)=_;rw[Af hcl,Qi];rfl
     .refine⟨_,rfl,(Addr.mk b off none).add (l*z),cap-l,?_,AH,.inl ?_,trivial⟩;.show Value.slice (if cap=l then some ⟨b,off,none⟩ else Option.map (λq:Addr=>q.add (l*z)) (some ⟨b,off,none⟩)) (k-l) (cap-l)=_;rw[Ad hcl,Qi];rfl
      .unfold Addr.add;split<;>simp_all
  .cases h
 .split at h;.cases h
  .rename_i QK;have QK:isStr=false:=by simpa using QK
   subst QK;obtain⟨e,ht,hn⟩:∃e,P.underlying t=some (.slice e)/\B4 P e=some size:=ht;have Gm:P.underlying t=some (.slice (P.elem t)):=by simp[Program.elem,ht]
   have he:P.elem t=e:=by simp[Program.elem,ht]
   rw[show x= .slice none 0 0 from hx];cases hb:D3 lo.isSome hi.isSome 0 as with
   |none=>rw[hb] at h;cases h
   |some f=>obtain⟨l,k⟩:=f;rw[hb] at h;cases h;obtain⟨c,i,g⟩:=KT (P:=P) (w:=w) (isSlice:=true) hb hr (Ag _);rw[run_sliceAt_slice w t _ _ _ _ Gm,run_slice_any w t _ _ _ Gm,c,he,Result.andThen_ok,DU hn];refine⟨_,rfl,?_⟩;have:l=0:=Ab;subst this;have:k=0:=Ab;subst this;rfl
 .cases h
end
end Go.Am
end
section
namespace Go.Am
open Go
section
variable{P:Program}{γ:Gh}{w:World}
def Ht{a:Aa}{v:Value}(h:BR γ a v)(hn:0<a.cells.length):Bj γ a.cells v.cells.toList/\∀u∈v.cells.toList,u.oneCell'=true:=by
 cases a with
 |agg cs=>obtain⟨us,rfl,p,q⟩:=h;exact⟨p,q⟩
 |tuple vs=>exact absurd hn (by simp[Aa.cells])
 |bool b=>rw[show v=_ from h];exact⟨⟨_,[],rfl,rfl,rfl⟩,Ro⟩
 |int k n=>rw[show v=_ from h];exact⟨⟨_,[],rfl,rfl,rfl⟩,Ro⟩
 |str s=>rw[show v=_ from h];exact⟨⟨_,[],rfl,rfl,rfl⟩,Ro⟩
 |slnil=>rw[show v=_ from h];exact⟨⟨_,[],rfl,rfl,rfl⟩,Ro⟩
 |E4 z=>have h0:=h;obtain⟨b,rfl⟩:=h;exact⟨⟨_,[],rfl,h0,rfl⟩,Ro⟩
 |nilFunc=>rw[show v=_ from h];exact⟨⟨_,[],rfl,rfl,rfl⟩,Ro⟩
 |nilIface=>rw[show v=_ from h];exact⟨⟨_,[],rfl,rfl,rfl⟩,Ro⟩
 |ptr p=>
  have h0:=h;cases p with
  |none=>rw[show v=_ from h];exact⟨⟨_,[],rfl,rfl,rfl⟩,Ro⟩
  |some p=>obtain⟨i,o⟩:=p;obtain⟨b,_,rfl⟩:=h;exact⟨⟨_,[],rfl,h0,rfl⟩,Ro⟩
 |CJ cs=>have h0:=h;obtain⟨b,o,rfl,_⟩:=h;exact⟨⟨_,[],rfl,h0,rfl⟩,Ro⟩
 |sl z AD=>have h0:=h;obtain⟨d,cap,rfl,_⟩:=h;exact⟨⟨_,[],rfl,h0,rfl⟩,Ro⟩
 |Cs id off len z=>have h0:=h;obtain⟨b,cap,_,rfl,_⟩:=h;exact⟨⟨_,[],rfl,h0,rfl⟩,Ro⟩
 |map m=>
  have h0:=h;cases m with
  |none=>rw[show v=_ from h];exact⟨⟨_,[],rfl,rfl,rfl⟩,Ro⟩
  |some id=>obtain⟨b,_,rfl⟩:=h;exact⟨⟨_,[],rfl,h0,rfl⟩,Ro⟩
 |func fn f c=>have h0:=h;obtain⟨fs,cs,rfl,_⟩:=h;exact⟨⟨_,[],rfl,h0,rfl⟩,Ro⟩
 |iface t a=>have h0:=h;obtain⟨u,rfl,_⟩:=h;exact⟨⟨_,[],rfl,h0,rfl⟩,Ro⟩
def Ol:∀(vs:List Value) (off j:Nat) (cells:Array Value),off+j+vs.length<=cells.size->
  (vs.zipIdx j).foldl (λcs (c,i)=>cs.setIfInBounds (off+i) c) cells=(cells.toList.take (off+j)++vs++cells.toList.drop (off+j+vs.length)).toArray
 |[],off,j,cells,h=>AH
 |v::vs,off,j,cells,h=>by
  simp only[vZ,mv];rw[Ol vs off (j+1) _ (by simp at h⊢;omega)];simp only[Bf] at h;have hk:off+j<cells.toList.length:=D9;have e0:(cells.setIfInBounds (off+j) v).toList=cells.toList.set (off+j) v:=AH;have d:(cells.toList.set (off+j) v).take (off+j+1)=cells.toList.take (off+j)++[v]:=by rw[List.take_add_one,O2 (Ag _),AO hk];rfl
  have b:(cells.toList.set (off+j) v).drop (off+j+1+vs.length)=cells.toList.drop (off+j+1+vs.length):=ZW Ab;rw[e0,(Ab:off+(j+1)=off+j+1),d,b];rw[(D9:off+j+(v::vs).length=off+j+1+vs.length)];simp
def Xg{place:Nat->Option (Nat×Nat)}:∀{places:List (Nat×Nat)} {as:List Aa} {parts:List (Nat×Value)} {cs:List Aa} {us:Array Value} {Ha:List Aa},AT cs (places.zip as)=some Ha->places.length=as.length->
  parts.map (λp=>place p.1)=places.map some->Bj γ as (parts.map (·.2))->Bj γ cs us.toList->(∀u∈us.toList,u.oneCell'=true)->
  ∃DR,Instr.fill place us parts=some DR/\Bj γ Ha DR.toList/\∀u∈DR.toList,u.oneCell'=true
 |[],as,parts,cs,us,Ha,h,hl,hp,ha,hr,h1=>by
  have:parts=[]:=by simpa using hp
  subst this;simp only[List.zip_nil_left,AT] at h;cases h;exact⟨us,rfl,hr,h1⟩
 |(off,size)::places,[],parts,cs,us,Ha,h,hl,hp,ha,hr,h1=>by simp at hl
 |(off,size)::places,a::as,[],cs,us,Ha,h,hl,hp,ha,hr,h1=>by simp at hp
 |(off,size)::places,a::as,(i,v)::parts,cs,us,Ha,h,hl,hp,ha,hr,h1=>by
  simp only[aN8,AT] at h;split at h
  .rename_i hc;obtain⟨o,n,m⟩:=hc;simp only[Bk,E5] at hp;obtain⟨_,_,e,Zh,b⟩:=ha.Mn;simp only[Bk,E5] at e;obtain⟨l,k⟩:=e;subst l;subst k;obtain⟨c,g⟩:=Ht Zh Ab;have Lb:v.cells.size=size:=by have:=c.length;simp at this;omega
   have Z4:us.size=cs.length:=by have:=hr.length;simpa using this
   have hf:=Ol v.cells.toList off 0 us (by simp[Lb];omega);obtain⟨DR,f,r2,d⟩:=Xg (place:=place) (us:=(us.toList.take off++v.cells.toList++us.toList.drop (off+size)).toArray) h (by simpa using hl) hp.2 b
    (by simpa using((hr.take off).append c).append (hr.drop (off+size)))
    (λu hu=>by
     simp only[Ax] at hu;rcases hu with(hu|hu)|hu
     .exact h1 u (Bn hu)
     .exact g u hu
     .exact h1 u (Bw hu))
   refine⟨DR,?_,r2,d⟩;rw[Instr.fill];simp only[hp.1];rw[Ad (by simp[Lb];omega)];rw[<-f];congr 1
   have j:v.cells.toList.length=size:=by simpa using Lb
   rw[<-aN9,aKn,hf];simp[j]
  .cases h
def Zw{v:Value}{a:Aa}(h:La v=some a):Bj γ a.cells v.cells.toList/\∀u∈v.cells.toList,u.oneCell'=true:=by
 have hr:=Fx (γ:=γ) h;unfold La at h;split at h
 .rename_i cs;cases hs:Mc cs.toList with
  |none=>rw[hs] at h;cases h
  |some as=>rw[hs] at h;cases h;exact Nh hs
 .refine Ht hr ?_;unfold Pl at h;split at h<;>first|(cases h;simp[Aa.cells];done)|skip
  .split at h;.cases h;simp[Aa.cells]
   .cases h
  .cases h
def OT{t:TypeId}{fs:Array Field}(hu:P.underlying t=some (.struct fs)){place:Nat->Option (Nat×Nat)}(lJ:∀(i:Nat) (f:Field) (n:Nat),fs[i]?=some f->B4 P f.type=some n->place i=some (f.offset,n)):
  ∀{parts:List (Nat×Operand)} {ps:List (Nat×Nat)},Kj P t parts=some ps->parts.map (λp=>place p.1)=ps.map some
 |[],ps,h=>by cases h;rfl
 |(i,x)::rest,ps,h=>by
  simp only[Kj,hu] at h;split at h
  .rename_i f hf;split at h;.rename_i n r h1 h2;cases h;simp[lJ i f n hf h1,OT hu lJ h2]
   .cases h
  .cases h
def Pw{t e:TypeId}{len n:Nat}(hu:P.underlying t=some (.array len e))(hn:B4 P e=some n):
  ∀{parts:List (Nat×Operand)} {ps:List (Nat×Nat)},Kj P t parts=some ps->parts.map (λp=>some (p.1*n,n))=ps.map some
 |[],ps,h=>by cases h;rfl
 |(i,x)::rest,ps,h=>by
  simp only[Kj,hu] at h;split at h
  .split at h;.rename_i n' r h1 h2;cases h;rw[hn] at h1;cases h1;simp[Pw hu hn h2]
   .cases h
  .cases h
def Ux:∀(fs:List Field),(fs.all λf=>(B4 P f.type).isSome)=true->∃places,fs.mapM (λf=>(P.info? f.type).map λi=>(f.offset,i.size))=some places/\
  ∀(i:Nat) (f:Field) (n:Nat),fs[i]?=some f->B4 P f.type=some n->places[i]?=some (f.offset,n)
 |[],_=>⟨[],rfl,AH⟩
 |f::fs,h=>by
  simp only[cN,Bv] at h;obtain⟨rest,h1,h2⟩:=Ux fs h.2;cases hi:P.info? f.type with
  |none=>simp[B4,hi] at h
  |some b=>
   refine⟨(f.offset,b.size)::rest,by simp[hi,h1],λi g n hg hn=>?_⟩;cases i with
   |zero=>simp at hg;subst hg;simp[B4,hi] at hn;simp[hn]
   |succ i=>simpa using h2 i g n (by simpa using hg) hn
def fo{t:TypeId}{z:Aa}{parts:Array (Nat×Operand)}{ps:List (Nat×Nat)}{O:Operand->Value}(hz:Hc P t=some z)(hp:Kj P t parts.toList=some ps)(hb:VU P t=true){as:List Aa}
  (ha:Bj γ as ((parts.toList.map (·.2)).map O)) {u:Aa} (h:AB (.Cn z.cells ps) as=some u):∃v,(Instr.build t (parts.map λ(i,x)=>(i,O x))).run P w= .ok v w/\BR γ u v:=by
 simp only[AB] at h;split at h
 .rename_i hl;cases hf:AT z.cells (ps.zip as) with
  |none=>rw[hf] at h;cases h
  |some cs=>
   rw[hf] at h;cases h;unfold Hc at hz;cases hi:P.info? t with
   |none=>rw[hi] at hz;cases hz
   |some d=>
    cases Zt:d.zero with
    |none=>rw[hi] at hz;simp[Zt] at hz
    |some k=>
     rw[hi] at hz;simp only[Cm,Zt] at hz;obtain⟨c,z2⟩:=Zw (γ:=γ) hz;have hparts:((parts.map λ(i,x)=>(i,O x)).toList.map (·.2))=(parts.toList.map (·.2)).map O:=AH;unfold VU at hb;split at hb
     .rename_i fs hu;obtain⟨places,j,g⟩:=Ux fs.toList hb;obtain⟨DR,f1,f2,f3⟩:=Xg (place:=λi=>places.toArray[i]?) (parts:=(parts.map λ(i,x)=>(i,O x)).toList) hf hl
       (by have:=OT hu (place:=λi=>places.toArray[i]?) (λi f n h1 h2=>by simpa using g i f n (by simpa using h1) h2) hp;rw[<-this];simp) (by rw[hparts];exact ha) c z2
      exact⟨.agg DR,run_build w t _ _ (by unfold Program.built;simp only[hi,hu,Zt,j];exact f1),DR,rfl,f2,f3⟩
     .rename_i len e hu;cases he:P.info? e with
      |none=>simp[B4,he] at hb
      |some b=>
       obtain⟨DR,f1,f2,f3⟩:=Xg (place:=λi=>some (i*b.size,b.size)) (parts:=(parts.map λ(i,x)=>(i,O x)).toList) hf hl
        (by have:=Pw hu (n:=b.size) (by simp[B4,he]) hp;rw[<-this];simp) (by rw[hparts];exact ha) c z2
       exact⟨.agg DR,run_build w t _ _ (by unfold Program.built;simp only[hi,hu,Zt,he];exact f1),DR,rfl,f2,f3⟩
     .cases hb
 .cases h
end
end Go.Am
end
section
namespace Go.Am
open Go
def RZ.still:RZ->Bool
 | .append _ _| .C8 _| .E4 _| .s2b| .WK=>false
 |_=>true
def Hu{o:lQ}{dst:Option Nat}{x:Option (List Aa)}{r:EN}(h:TB o dst x=some r):∃args,x=some args/\r= .mem o args dst:=by
 unfold TB at h;split at h;.cases h;exact⟨_,rfl,rfl⟩
 .cases h
def Lr{o:lQ}{dst:Option Nat}{x:Option (List Aa)}{p:RZ}{args:List Aa}{d:Option Nat}{Bt:Bool}{b:Option (Nat×Aa)}:¬TB o dst x=some (.op p args d Bt b):=λh=>by obtain⟨_,_,e⟩:=Hu h;cases e
def D5{p:RZ}{dst:Option Nat}{x:Option (List Aa)}{r:EN}(h:TA p dst x=some r):∃args,x=some args/\r= .op p args dst false none:=by
 cases x with
 |none=>cases h
 |some args=>cases h;exact⟨args,rfl,rfl⟩
section
variable{C:F8}{γ0 γ:Gh}{w0 w:World}{Z:Nat->Nat}{U:BV}{h:Ah}{a:Act}{fid:FuncId}{ops:List Oper}
def Ii(P:Program)(γ:Gh)(a:Act)(o:Oper)(w:World)(p:RZ)(args:List Aa):Prop:=
 ∀u,AB p args=some u->∃v,(execOp a.eval o).run P w= .ok (.value v) w/\BR γ u v
def EZ{P:Program}{s:Sem Value}{v:Value}(hs:s.run P w= .ok v w):(do pure (Next.value (<-s)):Sem Next).run P w= .ok (.value v) w:=by simp[hs]
def rG{o:Oper}{c x y:Operand}(ho:o.op= .pick c x y)(hr:De C γ0 w0 γ Z U h a w){args:List Aa}(ha:BC C U [c,x,y]=some args):Ii C.P γ a o w .pick args:=by
 intro u hu;simp only[AB] at hu;split at hu;.rename_i b p q;cases hu;obtain⟨_,_,_,e,h1,h2,d⟩:=(D4 hr ha).Uw;simp only[Bk,C2,E5] at e;obtain⟨i,g,f,_⟩:=e;rw[<-i] at h1;rw[<-g] at h2;rw[<-f] at d;refine⟨if b then a.eval x else a.eval y,?_,by cases b<;>simpa⟩;simp[execOp,ho,Sg h1,asBool]
 .cases hu
def fq{o:Oper}{op:BinOp}{t:TypeId}{x y:Operand}{p:RZ}(hp:Qf C.P op t=some p)(he:execOp a.eval o=(do pure (Next.value (<-(do eqGuard op t x y (a.eval x) (a.eval y);binOp op t (a.eval x) (a.eval y):Sem Value)))))
  (hr:De C γ0 w0 γ Z U h a w) {args:List Aa} (ha:BC C U [x,y]=some args):Ii C.P γ a o w p args:=by
 intro u hu;obtain⟨v,c,b⟩:=mC (w:=w) hp x y (D4 hr ha) hu;exact⟨v,by rw[he];exact EZ c,b⟩
def GR(hr:De C γ0 w0 γ Z U h a w){x:Operand}{args:List Aa}(ha:BC C U [x]=some args):∃u,args=[u]/\BR γ u (a.eval x):=by
 have h1:=D4 hr ha;cases args with
 |nil=>cases h1
 |cons u us=>
  obtain⟨_,_,e,h2,b⟩:=h1.Mn;cases e;cases us with
  |nil=>exact⟨u,rfl,h2⟩
  |cons _ _=>obtain⟨_,_,e,_⟩:=b.Mn;cases e
def Fg(hr:De C γ0 w0 γ Z U h a w){x y:Operand}{args:List Aa}(ha:BC C U [x,y]=some args):∃u v,args=[u,v]/\BR γ u (a.eval x)/\BR γ v (a.eval y):=by
 have h1:=D4 hr ha;cases args with
 |nil=>cases h1
 |cons u us=>
  obtain⟨_,_,e,h2,b⟩:=h1.Mn;cases e;cases us with
  |nil=>cases b
  |cons v vs=>
   obtain⟨_,_,e,d,c⟩:=b.Mn;cases e;cases vs with
   |nil=>exact⟨u,v,rfl,h2,d⟩
   |cons _ _=>obtain⟨_,_,e,_⟩:=c.Mn;cases e
def qd{o:Oper}{op:UnOp}{x:Operand}(he:execOp a.eval o=(do pure (Next.value (<-Op.unary op (a.eval x)))))
  (hr:De C γ0 w0 γ Z U h a w) {args:List Aa} (ha:BC C U [x]=some args):Ii C.P γ a o w (.un op) args:=by
 intro u hu;obtain⟨v,rfl,h1⟩:=GR hr ha;simp only[AB] at hu;obtain⟨r,c,b⟩:=aBS (P:=C.P) (w:=w) h1 hu;exact⟨r,by rw[he];exact EZ c,b⟩
def rH{o:Oper}{src dst:TypeId}{k l:IntKind}{x:Operand}(hs:C.P.underlying src=some (.int l))(hd:C.P.underlying dst=some (.int k))(he:execOp a.eval o=(do pure (Next.value (<-convert src dst (a.eval x)))))
  (hr:De C γ0 w0 γ Z U h a w) {args:List Aa} (ha:BC C U [x]=some args):Ii C.P γ a o w (.conv k) args:=by
 intro u hu;obtain⟨v,rfl,h1⟩:=GR hr ha;simp only[AB] at hu;split at hu;.rename_i e;cases e;cases hu;rw[EC h1] at he;exact⟨_,by rw[he];exact EZ (cU hs hd),rfl⟩
 .cases hu
def fu{o:Oper}{src dst:TypeId}{l:IntKind}{x:Operand}(hs:C.P.underlying src=some (.int l))(hd:C.P.underlying dst=some .string)(he:execOp a.eval o=(do pure (Next.value (<-convert src dst (a.eval x)))))
  (hr:De C γ0 w0 γ Z U h a w) {args:List Aa} (ha:BC C U [x]=some args):Ii C.P γ a o w .i2s args:=by
 intro u hu;obtain⟨v,rfl,h1⟩:=GR hr ha;simp only[AB] at hu;split at hu;.rename_i e;cases e;cases hu;rw[EC h1] at he;exact⟨_,by rw[he];exact EZ (cV hs hd),rfl⟩
 .cases hu
def mE{o:Oper}{t:TypeId}{x:Operand}{f off:Nat}{sh:Option Nat}(hf:Iy C.P t f=some (off,sh))(he:execOp a.eval o=(do pure (Next.value (<-Instr.field t (a.eval x) f))))
  (hr:De C γ0 w0 γ Z U h a w) {args:List Aa} (ha:BC C U [x]=some args):Ii C.P γ a o w (.part off sh) args:=by
 intro u hu;obtain⟨v,rfl,h1⟩:=GR hr ha;simp only[AB] at hu;split at hu;.rename_i e;cases e;obtain⟨r,c,b⟩:=fk (w:=w) hf h1 hu;exact⟨r,by rw[he];exact EZ c,b⟩
 .cases hu
def Vs{o:Oper}{t:TypeId}{x:Operand}{f off:Nat}{sh:Option Nat}(hf:Iy C.P t f=some (off,sh))(he:execOp a.eval o=(do pure (Next.value (<-Instr.fieldAt t (a.eval x) f))))
  (hr:De C γ0 w0 γ Z U h a w) {args:List Aa} (ha:BC C U [x]=some args):Ii C.P γ a o w (.Ll off) args:=by
 intro u hu;obtain⟨v,rfl,h1⟩:=GR hr ha;simp only[AB] at hu;obtain⟨r,c,b⟩:=mD (w:=w) hf h1 hu;exact⟨r,by rw[he];exact EZ c,b⟩
def fw{o:Oper}{x:Operand}{i:Nat}(he:execOp a.eval o=(do pure (Next.value (<-Instr.extract (a.eval x) i))))
  (hr:De C γ0 w0 γ Z U h a w) {args:List Aa} (ha:BC C U [x]=some args):Ii C.P γ a o w (.ext i) args:=by
 intro u hu;obtain⟨v,rfl,h1⟩:=GR hr ha;simp only[AB] at hu;split at hu;.rename_i e;cases e;obtain⟨r,c,b⟩:=À (P:=C.P) (w:=w) h1 hu;exact⟨r,by rw[he];exact EZ c,b⟩
 .cases hu
def Vt{o:Oper}{t:TypeId}{x y:Operand}(ht:C.P.underlying t=some .string)(he:execOp a.eval o=(do pure (Next.value (<-Instr.index t (a.eval x) (a.eval y)))))
  (hr:De C γ0 w0 γ Z U h a w) {args:List Aa} (ha:BC C U [x,y]=some args):Ii C.P γ a o w .Zr args:=by
 intro u hu;obtain⟨p,q,rfl,h1,h2⟩:=Fg hr ha;simp only[AB] at hu;split at hu
 .rename_i e;cases e;split at hu
  .rename_i s k i h0;cases hb:s[i.toNat]? with
   |none=>rw[hb] at hu;cases hu
   |some b=>rw[hb] at hu;cases hu;rw[Oj h1,EC h2] at he;exact⟨_,by rw[he];exact EZ (Zv ht h0 hb),rfl⟩
  .cases hu
 .cases hu
def Vu{o:Oper}{t e:TypeId}{len n:Nat}{sh:Option Nat}{x y:Operand}(ht:C.P.underlying t=some (.array len e))(hn:B4 C.P e=some n)(qE:Fq C.P e=some sh)(he:execOp a.eval o=(do pure (Next.value (<-Instr.index t (a.eval x) (a.eval y)))))
  (hr:De C γ0 w0 γ Z U h a w) {args:List Aa} (ha:BC C U [x,y]=some args):Ii C.P γ a o w (.aBH len n sh) args:=by
 intro u hu;obtain⟨p,q,rfl,h1,h2⟩:=Fg hr ha;simp only[AB] at hu;split at hu
 .rename_i e;cases e;rename_i cs k i;cases hb:Mi i len with
  |none=>rw[hb] at hu;cases hu
  |some j=>rw[hb] at hu;simp only[Cm] at hu;rw[EC h2] at he;obtain⟨r,c,b⟩:=Zu (w:=w) (k:=k) ht hn qE h1 hb hu;exact⟨r,by rw[he];exact EZ c,b⟩
 .cases hu
def Xh{o:Oper}{t e:TypeId}{n:Nat}{x y:Operand}(ht:C.P.underlying t=some (.slice e))(hn:B4 C.P e=some n)(he:execOp a.eval o=(do pure (Next.value (<-Instr.indexAt t (a.eval x) (a.eval y)))))
  (hr:De C γ0 w0 γ Z U h a w) {args:List Aa} (ha:BC C U [x,y]=some args):Ii C.P γ a o w (.Fu n) args:=by
 intro u hu;obtain⟨p,q,rfl,h1,h2⟩:=Fg hr ha;simp only[AB] at hu;split at hu;.rename_i e;cases e;rename_i k i;rw[EC h2] at he;obtain⟨r,c,b⟩:=rD (w:=w) (k:=k) ht hn h1 hu;exact⟨r,by rw[he];exact EZ c,b⟩
 .cases hu
def Zx{o:Oper}{t e:TypeId}{len n:Nat}{x y:Operand}(ht:C.P.underlying t=some (.array len e))(hn:B4 C.P e=some n)(he:execOp a.eval o=(do pure (Next.value (<-Instr.indexAt t (a.eval x) (a.eval y)))))
  (hr:De C γ0 w0 γ Z U h a w) {args:List Aa} (ha:BC C U [x,y]=some args):Ii C.P γ a o w (.Uq len n) args:=by
 intro u hu;obtain⟨p,q,rfl,h1,h2⟩:=Fg hr ha;simp only[AB] at hu;split at hu
 .rename_i e;cases e;rename_i k i;cases hb:Mi i len with
  |none=>rw[hb] at hu;cases hu
  |some j=>rw[hb] at hu;simp only[Cm] at hu;rw[EC h2] at he;obtain⟨r,c,b⟩:=fm (w:=w) (k:=k) ht hn h1 hb hu;exact⟨r,by rw[he];exact EZ c,b⟩
 .cases hu
def Uy{o:Oper}{t:TypeId}{x:Operand}{lo hi:Option Operand}{isStr:Bool}{size:Nat}(ht:if isStr=true then C.P.underlying t=some .string else∃e,C.P.underlying t=some (.slice e)/\B4 C.P e=some size)
  (he:execOp a.eval o=(do pure (Next.value (<-Instr.sliceAt t (a.eval x) (lo.map a.eval) (hi.map a.eval) none))))
  (hr:De C γ0 w0 γ Z U h a w) {args:List Aa} (ha:BC C U (x::(lo.toList++hi.toList))=some args):Ii C.P γ a o w (.KK size isStr lo.isSome hi.isSome) args:=by
 intro u hu;have h1:=D4 hr ha;cases args with
 |nil=>cases h1
 |cons s as=>obtain⟨_,_,e,h2,d⟩:=h1.Mn;cases e;simp only[AB] at hu;obtain⟨r,c,b⟩:=Á (P:=C.P) (w:=w) (lo:=lo.map a.eval) (hi:=hi.map a.eval) ht h2 (by cases lo<;>cases hi<;>simpa using d) (by simpa using hu);exact⟨r,by rw[he];exact EZ c,b⟩
def mF{o:Oper}{t:TypeId}{parts:Array (Nat×Operand)}{z:Aa}{ps:List (Nat×Nat)}(hz:Hc C.P t=some z)(hp:Kj C.P t parts.toList=some ps)(hb:VU C.P t=true)
  (he:execOp a.eval o=(do pure (Next.value (<-Instr.build t (parts.map λ(i,x)=>(i,a.eval x))))))
  (hr:De C γ0 w0 γ Z U h a w) {args:List Aa} (ha:BC C U (parts.toList.map (·.2))=some args):Ii C.P γ a o w (.Cn z.cells ps) args:=by
 intro u hu;obtain⟨r,c,b⟩:=fo (w:=w) hz hp hb (D4 hr ha) hu;exact⟨r,by rw[he];exact EZ c,b⟩
def cX{o:Oper}{x:Operand}(ho:o.op= .nilCheck x)(hr:De C γ0 w0 γ Z U h a w){args:List Aa}(ha:BC C U [x]=some args):Ii C.P γ a o w .JK args:=by
 intro u hu;obtain⟨v,rfl,h1⟩:=GR hr ha;simp only[AB,lS] at hu;split at hu;.rename_i p;cases hu;obtain⟨i,k⟩:=p;obtain⟨b,hb,hv⟩:=h1;exact⟨_,by simp only[execOp,ho,hv];rfl,b,hb,rfl⟩
 .cases hu;obtain⟨b,k,hv,hm⟩:=h1;exact⟨_,by simp only[execOp,ho,hv];rfl,b,k,rfl,hm⟩
 .cases hu;obtain⟨fs,cs,hv,p,q⟩:=h1;exact⟨_,by simp only[execOp,ho,hv];rfl,fs,cs,rfl,p,q⟩
 .cases hu
def Ni:∀{xs:List Operand} {us:List Aa},BC C U xs=some us->us.length=xs.length
 |[],us,h=>by cases h;rfl
 |x::xs,us,h=>by
  unfold BC at h;split at h;.rename_i u DR h1 h2;cases h;simp[Ni h2]
  .cases h
def Om{P:Program}{o:Oper}{c:Call}{b:Builtin}{s:Sem Value}(ho:o.op= .call c)(hc:c.callee= .builtin b)(hs:builtin b c.argTypes o.type (c.args.map λ| .const _=>true|_=>false) (c.args.map a.eval)=(do pure (Next.value (<-s)))){v:Value}
  (hv:s.run P w= .ok v w):(execOp a.eval o).run P w= .ok (.value v) w:=by
 have:execOp a.eval o=(do pure (Next.value (<-s))):=by rw[<-hs];simp only[execOp,ho,resolve,hc];rfl
 rw[this];exact EZ hv
def Z9{o:Oper}{c:Call}{t:TypeId}{isStr:Bool}(ho:o.op= .call c)(hc:c.callee= .builtin .len)(h0:c.argTypes[0]?=some t)(ht:if isStr=true then C.P.underlying t=some .string else∃e,C.P.underlying t=some (.slice e))
  (hr:De C γ0 w0 γ Z U h a w) {args:List Aa} (ha:BC C U c.args.toList=some args):Ii C.P γ a o w (.len isStr) args:=by
 intro u hu;simp only[AB] at hu;split at hu
 .rename_i s;have hl:=Ni ha;obtain⟨x,hx⟩:∃x,c.args.toList=[x]:=aEw.1 hl.symm;rw[hx] at ha;obtain⟨_,e,h1⟩:=GR hr ha;cases e;obtain⟨r,d,b⟩:=Z_ (P:=C.P) (w:=w) (ty:=o.type) ht h0 h1 hu;have e:c.args.map a.eval=#[a.eval x]:=by apply HD;simp[hx]
  exact⟨r,Om ho hc (s:=Builtin.len_ c.argTypes o.type #[a.eval x]) (by rw[e];rfl) d,b⟩
 .cases hu
def Si{o:Oper}{c:Call}{isMax:Bool}(ho:o.op= .call c)(hc:c.callee= .builtin (if isMax then .max else .min))(hr:De C γ0 w0 γ Z U h a w){args:List Aa}(ha:BC C U c.args.toList=some args):Ii C.P γ a o w (.LI isMax) args:=by
 intro u hu;simp only[AB] at hu;split at hu
 .rename_i k p l q;split at hu
  .rename_i hk;subst hk;cases hu;have hl:=Ni ha;obtain⟨x,y,hx⟩:∃x y,c.args.toList=[x,y]:=by
    cases hq:c.args.toList with
    |nil=>rw[hq] at hl;simp at hl
    |cons x xs=>cases xs with
     |nil=>rw[hq] at hl;simp at hl
     |cons y ys=>cases ys with
      |nil=>exact⟨x,y,rfl⟩
      |cons _ _=>rw[hq] at hl;simp at hl
   rw[hx] at ha;obtain⟨_,_,e,h1,h2⟩:=Fg hr ha;cases e;have e:c.args.map a.eval=#[.int k p,.int k q]:=by apply HD;simp[hx,EC h1,EC h2]
   cases isMax with
   |true=>exact⟨_,Om ho hc (s:=Builtin.max_ c.argTypes o.type #[.int k p,.int k q]) (by rw[e];rfl) (by simp[Builtin.max_,Builtin.max2]),rfl⟩
   |false=>exact⟨_,Om ho hc (s:=Builtin.min_ c.argTypes o.type #[.int k p,.int k q]) (by rw[e];rfl) (by simp[Builtin.min_,Builtin.min2]),rfl⟩
  .cases hu
 .cases hu
end
end Go.Am
end
section
namespace Go.Am
open Go
section
variable{C:F8}{γ0 γ:Gh}{w0 w:World}{Z:Nat->Nat}{U:BV}{h:Ah}{a:Act}{fid:FuncId}{ops:List Oper}
def MZ{x:Operand}{d:Nat}{take:Bool}{r:EN}(h:KS C U x d take=some r):∃ws,r= .pure ws:=by
 unfold KS at h;split at h;.cases h;exact⟨_,rfl⟩
 .cases h;exact⟨_,rfl⟩
 .split at h;.cases h;exact⟨_,rfl⟩
  .cases hc:Iz _ with
   |none=>rw[hc] at h;cases h
   |some s=>rw[hc] at h;cases h;exact⟨_,rfl⟩
 .cases hc:Iz _ with
  |none=>rw[hc] at h;cases h
  |some s=>rw[hc] at h;cases h;exact⟨_,rfl⟩
 .cases h
def aA{t:TypeId}{v:Aa}{d:Nat}{p:RZ}{args:List Aa}{dst:Option Nat}{Bt:Bool}{b:Option (Nat×Aa)}:Ut C fid t v d≠some (.op p args dst Bt b):=by
 unfold Ut;intro h;split at h;.cases h
 .split at h;.cases h
  .split at h<;>cases h
def rI{t:TypeId}{x:Operand}{d:Nat}{take:Bool}{p:RZ}{args:List Aa}{dst:Option Nat}{Bt:Bool}{b:Option (Nat×Aa)}:LL C U t x d take≠some (.op p args dst Bt b):=by
 unfold LL;intro h;split at h;.cases h
 .split at h;.simp only at h;split at h<;>cases h
  .cases h
 .split at h<;>cases h
 .cases h
def mG{t:TypeId}{x y:Operand}{p:RZ}{args:List Aa}{dst:Option Nat}{Bt:Bool}{b:Option (Nat×Aa)}:JF C U t x y≠some (.op p args dst Bt b):=by
 unfold JF;intro h;split at h;.cases h
 .split at h<;>cases h
 .cases h
def fx{o:Oper}{p:RZ}{args:List Aa}{dst:Option Nat}{Bt:Bool}{j:Option (Nat×Aa)}(hc:Gs C fid ops U o=some (.op p args dst Bt j))(HT:p.still=true)(hr:De C γ0 w0 γ Z U h a w):
  Ii C.P γ a o w p args/\dst=o.dst/\Bt=false/\j=none:=by
 unfold Gs at hc
 split at hc
 .split at hc
  .obtain⟨ws,e⟩:=MZ hc;cases e
  .cases hc
 .split at hc
  .obtain⟨ws,e⟩:=MZ hc;cases e
  .cases hc
 .rename_i c x y ho
  split at hc
  .obtain⟨ws,e⟩:=MZ hc;cases e
  .obtain⟨ws,e⟩:=MZ hc;cases e
  .obtain⟨as,g,b⟩:=D5 hc
   cases b
   exact⟨rG ho hr g,rfl,rfl,rfl⟩
 .split at hc
  .split at hc
   .split at hc<;>cases hc
   .exact absurd hc aA
  .cases hc
 .split at hc
  .exact absurd hc aA
  .cases hc
 .rename_i t parts ho
  split at hc
  .rename_i z ps hz hp
   split at hc
   .rename_i hb
    obtain⟨as,g,b⟩:=D5 hc
    cases b
    exact⟨mF hz hp hb (by simp[execOp,ho]) hr g,rfl,rfl,rfl⟩
   .cases hc
  .cases hc
 .split at hc
  .split at hc
   .split at hc
    .split at hc
     .cases hc;cases HT
     .cases hq:BC C U _ with
      |none=>rw[hq] at hc;cases hc
      |some q=>rw[hq] at hc;cases hc;cases HT
    .cases hc
   .cases hc
  .cases hc
 .split at hc
  .exact absurd hc rI
  .cases hc
 .split at hc
  .exact absurd hc mG
  .cases hc
 .rename_i x ho
  split at hc
  .cases hc
  .cases hc
  .obtain⟨as,g,b⟩:=D5 hc
   cases b
   exact⟨cX ho hr g,rfl,rfl,rfl⟩
 .rename_i op t x y k ho
  split at hc
  .rename_i q hq
   obtain⟨as,g,b⟩:=D5 hc
   cases b
   exact⟨fq hq (by simp[execOp,ho]) hr g,rfl,rfl,rfl⟩
  .cases hc
 .rename_i op t x ho
  obtain⟨as,g,b⟩:=D5 hc
  cases b
  exact⟨qd (by simp[execOp,ho]) hr g,rfl,rfl,rfl⟩
 .rename_i src aKv x ho
  split at hc
  .cases hq:E8 C U x with
   |none=>rw[hq] at hc;cases hc
   |some q=>rw[hq] at hc;cases hc
  .split at hc
   .cases hq:E8 C U x with
    |none=>rw[hq] at hc;cases hc
    |some q=>rw[hq] at hc;cases hc
   .obtain⟨as,g,b⟩:=D5 hc
    cases b;cases HT
  .rename_i q Nj Tv hq
   obtain⟨as,g,b⟩:=D5 hc
   cases b
   refine⟨?_,rfl,rfl,rfl⟩
   unfold WX at hq
   split at hq
   .rename_i hs hd
    cases hq
    exact rH hs hd (by simp[execOp,ho]) hr g
   .rename_i hs hd
    cases hq
    exact fu hs hd (by simp[execOp,ho]) hr g
   .cases hq
   .split at hq
    .cases hq;cases HT
    .cases hq
   .split at hq
    .cases hq;cases HT
    .cases hq
   .cases hq
  .cases hc
 .split at hc
  .cases hc
  .cases hc
 .cases hc
 .split at hc
  .split at hc<;>cases hc
  .cases hc
 .split at hc
  .split at hc<;>cases hc
  .cases hc
 .split at hc
  .split at hc<;>cases hc
  .cases hc
 .split at hc
  .split at hc<;>cases hc
  .cases hc
 .split at hc
  .split at hc
   .exact absurd hc Lr
   .cases hc
  .cases hc
 .split at hc
  .cases hc
  .exact absurd hc Lr
  .cases hc
 .split at hc
  .split at hc<;>first|exact absurd hc Lr|cases hc
  .cases hc
 .split at hc
  .exact absurd hc Lr
  .cases hc
 .rename_i t x lo hi ho
  split at hc
  .rename_i ht
   obtain⟨as,g,b⟩:=D5 hc
   cases b
   exact⟨Uy (isStr:=true) ht (by simp[execOp,ho]) hr g,rfl,rfl,rfl⟩
  .rename_i e ht
   split at hc
   .rename_i n hn
    split at hc
    .exact absurd hc Lr
    .obtain⟨as,g,b⟩:=D5 hc
     cases b
     exact⟨Uy (isStr:=false) ⟨e,ht,hn⟩ (by simp[execOp,ho]) hr g,rfl,rfl,rfl⟩
   .cases hc
  .cases hc
 .rename_i t x f ho
  split at hc
  .rename_i off sh d hf hd
   split at hc
   .cases hc
   .cases hc
   .obtain⟨as,g,b⟩:=D5 hc
    cases b
    exact⟨Vs hf (by simp[execOp,ho]) hr g,hd.symm,rfl,rfl⟩
  .cases hc
 .rename_i t x f ho
  split at hc
  .rename_i off sh hf
   obtain⟨as,g,b⟩:=D5 hc
   cases b
   exact⟨mE hf (by simp[execOp,ho]) hr g,rfl,rfl,rfl⟩
  .cases hc
 .rename_i t x i ho
  split at hc
  .rename_i e ht
   split at hc
   .rename_i n hn
    obtain⟨as,g,b⟩:=D5 hc
    cases b
    exact⟨Xh ht hn (by simp[execOp,ho]) hr g,rfl,rfl,rfl⟩
   .cases hc
  .rename_i len e ht
   split at hc
   .rename_i n hn
    split at hc
    .cases hc
    .obtain⟨as,g,b⟩:=D5 hc
     cases b
     exact⟨Zx ht hn (by simp[execOp,ho]) hr g,rfl,rfl,rfl⟩
   .cases hc
  .cases hc
 .rename_i t x i ho
  split at hc
  .rename_i ht
   obtain⟨as,g,b⟩:=D5 hc
   cases b
   exact⟨Vt ht (by simp[execOp,ho]) hr g,rfl,rfl,rfl⟩
  .rename_i len e ht
   split at hc
   .rename_i n sh hn qE
    obtain⟨as,g,b⟩:=D5 hc
    cases b
    exact⟨Vu ht hn qE (by simp[execOp,ho]) hr g,rfl,rfl,rfl⟩
   .cases hc
  .cases hc
 .rename_i x i ho
  obtain⟨as,g,b⟩:=D5 hc
  cases b
  exact⟨fw (by simp[execOp,ho]) hr g,rfl,rfl,rfl⟩
 .rename_i c ho
  unfold Ri at hc
  split at hc
  .rename_i hcl
   split at hc
   .rename_i t h0
    split at hc
    .rename_i ht
     obtain⟨as,g,b⟩:=D5 hc
     cases b
     exact⟨Z9 (isStr:=true) ho hcl h0 ht hr g,rfl,rfl,rfl⟩
    .rename_i e ht
     obtain⟨as,g,b⟩:=D5 hc
     cases b
     exact⟨Z9 (isStr:=false) ho hcl h0 ⟨e,ht⟩ hr g,rfl,rfl,rfl⟩
    .cases hc
   .cases hc
  .split at hc
   .split at hc
    all_goals first
     |(cases hc;done)
     | (split at hc
        . split at hc
          . split at hc
            . split at hc
              . split at hc
                . cases hc
                . split at hc
                  . cases hc
                  . cases hc; cases HT
              . split at hc <;> cases hc
            . cases hc
          . cases hc
        . cases hc)
   .cases hc
  .split at hc
   .split at hc
    all_goals first
     |(cases hc;done)
     | (split at hc
        . exact absurd hc Lr
        . cases hc)
   .cases hc
  .split at hc
   .split at hc
    .split at hc
     .exact absurd hc Lr
     .cases hc
    .cases hc
   .cases hc
  .rename_i hcl
   split at hc
   .obtain⟨as,g,b⟩:=D5 hc
    cases b
    exact⟨Si (isMax:=true) ho hcl hr g,rfl,rfl,rfl⟩
   .cases hc
  .rename_i hcl
   split at hc
   .obtain⟨as,g,b⟩:=D5 hc
    cases b
    exact⟨Si (isMax:=false) ho hcl hr g,rfl,rfl,rfl⟩
   .cases hc
  .split at hc
   .split at hc
    .split at hc
     .exact absurd hc Lr
     .cases hc
    .cases hc
   split at hc
   .cases hq:BC C U c.args.toList with
    |none=>rw[hq] at hc;cases hc
    |some q=>
     rw[hq] at hc
     simp only[B5,BD] at hc
     split at hc<;>cases hc
   .cases hc
  .split at hc<;>cases hc
  .cases hc
 .cases hc
end
end Go.Am
end
