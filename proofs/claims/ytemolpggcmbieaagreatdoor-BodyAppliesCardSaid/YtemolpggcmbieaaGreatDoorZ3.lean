/- Lemmas -/
import Derived.Test.YtemolpggcmbieaaGreatDoorZ2
import Derived.Laws.Slices
set_option linter.all false
section
namespace Go.Am
open Go
section
variable{P:Program}{γ:Gh}{w:World}
def RL{a:Bool}{v:Value}(h:BI γ (.bool a) v):v= .bool a:=h
def D9{k:IntKind}{a:Int}{v:Value}(h:BI γ (.int k a) v):v= .int k a:=h
def NJ{a:Ak}{v:Value}(h:BI γ (.str a) v):v= .string ⟨⟨a⟩⟩:=h
def AV.xt{us:List Value}(h:AV γ [] us):us=[]:=h
def AV.LO{a:Aa}{l:List Aa}{us:List Value}(h:AV γ (a::l) us):∃u Dq,us=u::Dq/\BI γ a u/\AV γ l Dq:=h
def AV.one{a:Aa}{us:List Value}(h:AV γ [a] us):∃u,us=[u]/\BI γ a u:=by obtain⟨u,Dq,rfl,h1,h2⟩:=h;rw[h2.xt];exact⟨u,rfl,h1⟩
def AV.JA{a b:Aa}{us:List Value}(h:AV γ [a,b] us):∃u v,us=[u,v]/\BI γ a u/\BI γ b v:=by obtain⟨u,Dq,rfl,h1,h2⟩:=h;obtain⟨v,rfl,c⟩:=h2.one;exact⟨u,v,rfl,h1,c⟩
def AV.YZ{a b c:Aa}{us:List Value}(h:AV γ [a,b,c] us):∃u v x,us=[u,v,x]/\BI γ a u/\BI γ b v/\BI γ c x:=by obtain⟨u,Dq,rfl,h1,h2⟩:=h;obtain⟨v,x,rfl,e,d⟩:=h2.JA;exact⟨u,v,x,rfl,h1,e,d⟩
def Value.JG:Value->Bool
 | .bool _| .pointer _| .slice _ _ _| .func _ _ _| .nilFunc| .map _=>true
 |_=>false
def Te{op:BinOp}{neg:Bool}(Qu:(op= .eql/\neg=false)\/(op= .neq/\neg=true))(t:TypeId)(c b:Operand){x y:Value}(hx:Value.JG x=true)(hy:Value.JG y=true){e:Bool}
  (he:(Op.equal t x y).run P w= .ok e w):(do eqGuard op t c b x y;binOp op t x y:Sem Value).run P w= .ok (.bool (e != neg)) w:=by
 have hg:eqGuard op t c b x y=pure ():=by rcases Qu with⟨rfl,_⟩|⟨rfl,_⟩<;>cases x<;>simp[Value.JG] at hx<;>rfl
 rw[hg];rcases Qu with⟨rfl,rfl⟩|⟨rfl,rfl⟩
 .have hb:binOp .eql t x y=(do pure (.bool (<-Op.equal t x y))):=by cases x<;>simp[Value.JG] at hx<;>cases y<;>simp[Value.JG] at hy<;>rfl
  simp[hb,he]
 .have hb:binOp .neq t x y=(do pure (.bool (!(<-Op.equal t x y)))):=by cases x<;>simp[Value.JG] at hx<;>cases y<;>simp[Value.JG] at hy<;>rfl
  simp[hb,he]
def fS{op:BinOp}{neg:Bool}(Qu:(op= .eql/\neg=false)\/(op= .neq/\neg=true))(t:TypeId)(d c:Operand)(ht:P.underlying t=some .bool)(a b:Bool):
  (do eqGuard op t d c (.bool a) (.bool b);binOp op t (.bool a) (.bool b):Sem Value).run P w= .ok (.bool ((a==b) != neg)) w:=
 Te Qu t d c rfl rfl (run_equalIn_bool' w 9999 t a b ht)
def UL{d:Nat}{t e:TypeId}(ht:P.underlying t=some (.pointer e))(hz:∃n,BR P e=some (n+1)){a b:Aa}{x y:Value}(hx:BI γ a x)(hy:BI γ b y){r:Bool}(h:qP a b=some r):
  (Op.equalIn (d+1) t x y).run P w= .ok r w/\Value.JG x=true/\Value.JG y=true:=by
 obtain⟨n,hn⟩:=hz;unfold qP at h;split at h
 .rename_i q;cases h;rw[show x= .pointer none from hx];have:∃p,y= .pointer p/\p.isNone=q.isNone:=by
   cases q with
   |none=>exact⟨none,hy,rfl⟩
   |some p=>obtain⟨i,o⟩:=p;obtain⟨b,_,rfl⟩:=hy;exact⟨_,rfl,rfl⟩
  obtain⟨p,rfl,hp⟩:=this;exact⟨by simp[Op.equalIn,run_underlying ht,hp],rfl,rfl⟩
 .rename_i p;cases h;obtain⟨i,o⟩:=p;obtain⟨b,_,rfl⟩:=hx;rw[show y= .pointer none from hy];exact⟨by simp[Op.equalIn,run_underlying ht],rfl,rfl⟩
 .rename_i p q;split at h;.rename_i he;cases h;subst he;obtain⟨i,o⟩:=p;obtain⟨b,hb,rfl⟩:=hx;obtain⟨b',PV,rfl⟩:=hy;rw[hb] at PV;cases PV;exact⟨by simp[Op.equalIn,run_underlying ht,Dv hn,sameAddr],rfl,rfl⟩
  .cases h
 .cases h;rw[show x= .pointer none from hx];obtain⟨b,o,rfl,_⟩:=hy;exact⟨by simp[Op.equalIn,run_underlying ht],rfl,rfl⟩
 .cases h;rw[show y= .pointer none from hy];obtain⟨b,o,rfl,_⟩:=hx;exact⟨by simp[Op.equalIn,run_underlying ht],rfl,rfl⟩
 .cases h
def En{d:Nat}{t e:TypeId}(ht:P.underlying t=some (.slice e)){p q:Option Addr}{n c m k:Nat}(h:p=none\/q=none):
  (Op.equalIn (d+1) t (.slice p n c) (.slice q m k)).run P w= .ok (p.isNone&&q.isNone) w:=by
 cases p<;>cases q<;>simp at h<;>simp[Op.equalIn,run_underlying ht]
def LP{d:Nat}{t:TypeId}{a b:Array TypeId}{c:Bool}(ht:P.underlying t=some (.func a b c)){f:Fn}{x y:Array Value}:
  (Op.equalIn (d+1) t .nilFunc .nilFunc).run P w= .ok true w/\(Op.equalIn (d+1) t .nilFunc (.func f x y)).run P w= .ok false w/\(Op.equalIn (d+1) t (.func f x y) .nilFunc).run P w= .ok false w:=by
 refine⟨?_,?_,?_⟩<;>simp[Op.equalIn,run_underlying ht]
def Lh{d:Nat}{t k e:TypeId}(ht:P.underlying t=some (.map k e)){p q:Option Nat}(h:p=none\/q=none):
  (Op.equalIn (d+1) t (.map p) (.map q)).run P w= .ok (p.isNone&&q.isNone) w:=by
 cases p<;>cases q<;>simp at h<;>simp[Op.equalIn,run_underlying ht]
def UM{d:Nat}{t:TypeId}{k:NK}(ht:match k with| .sl=>∃e,P.underlying t=some (.slice e)| .fn=>∃a b c,P.underlying t=some (.func a b c)| .mp=>∃a b,P.underlying t=some (.map a b))
  {a b:Aa} {x y:Value} (hx:BI γ a x) (hy:BI γ b y) {r:Bool} (h:qQ k a b=some r):
  (Op.equalIn (d+1) t x y).run P w= .ok r w/\Value.JG x=true/\Value.JG y=true:=by
 unfold qQ at h;split at h;case h_1=>obtain⟨e,ht⟩:=ht;cases h;rw[show x= .slice none 0 0 from hx,show y= .slice none 0 0 from hy];exact⟨En ht (.inl rfl),rfl,rfl⟩
 case h_2=>obtain⟨e,ht⟩:=ht;cases h;rw[show x= .slice none 0 0 from hx];obtain⟨_,_,rfl,_⟩:=hy;exact⟨En ht (.inl rfl),rfl,rfl⟩
 case h_3=>obtain⟨e,ht⟩:=ht;cases h;rw[show y= .slice none 0 0 from hy];obtain⟨_,_,rfl,_⟩:=hx;exact⟨En ht (.inr rfl),rfl,rfl⟩
 case h_4=>obtain⟨e,ht⟩:=ht;cases h;rw[show x= .slice none 0 0 from hx];obtain⟨_,rfl⟩:=hy;exact⟨En ht (.inl rfl),rfl,rfl⟩
 case h_5=>obtain⟨e,ht⟩:=ht;cases h;rw[show y= .slice none 0 0 from hy];obtain⟨_,rfl⟩:=hx;exact⟨En ht (.inr rfl),rfl,rfl⟩
 case h_6=>obtain⟨e,ht⟩:=ht;cases h;rw[show x= .slice none 0 0 from hx];obtain⟨_,_,_,rfl,_⟩:=hy;exact⟨En ht (.inl rfl),rfl,rfl⟩
 case h_7=>obtain⟨e,ht⟩:=ht;cases h;rw[show y= .slice none 0 0 from hy];obtain⟨_,_,_,rfl,_⟩:=hx;exact⟨En ht (.inr rfl),rfl,rfl⟩
 case h_8=>obtain⟨_,_,_,ht⟩:=ht;cases h;rw[show x= .nilFunc from hx,show y= .nilFunc from hy];exact⟨(LP ht (f:= .func 0) (x:=#[]) (y:=#[])).1,rfl,rfl⟩
 case h_9=>obtain⟨_,_,_,ht⟩:=ht;cases h;rw[show x= .nilFunc from hx];obtain⟨_,_,rfl,_⟩:=hy;exact⟨(LP ht).2.1,rfl,rfl⟩
 case h_10=>obtain⟨_,_,_,ht⟩:=ht;cases h;rw[show y= .nilFunc from hy];obtain⟨_,_,rfl,_⟩:=hx;exact⟨(LP ht).2.2,rfl,rfl⟩
 case h_11=>
  rename_i q;obtain⟨_,_,ht⟩:=ht;cases h;rw[show x= .map none from hx];cases q with
  |none=>rw[show y= .map none from hy];exact⟨Lh ht (.inl rfl),rfl,rfl⟩
  |some id=>obtain⟨b,_,rfl⟩:=hy;exact⟨Lh ht (.inl rfl),rfl,rfl⟩
 case h_12=>obtain⟨_,_,ht⟩:=ht;cases h;rw[show y= .map none from hy];obtain⟨b,_,rfl⟩:=hx;exact⟨Lh ht (.inr rfl),rfl,rfl⟩
 .cases h
def zH{op:BinOp}{args:List Aa}{u:Aa}(h:Ay (.int op) args=some u):∃k a l b,args=[.int k a,.int l b]/\qO op k a l b=some u:=by
 simp only[Ay] at h;split at h;.exact⟨_,_,_,_,rfl,h⟩
 .cases h
def zI{op:BinOp}{args:List Aa}{u:Aa}(h:Ay (.str op) args=some u):∃a b,args=[.str a,.str b]/\fH op a b=some u:=by
 simp only[Ay] at h;split at h;.exact⟨_,_,rfl,h⟩
 .cases h
def fU{op:BinOp}{t:TypeId}{p:X8}(hp:PT P op t=some p)(f c:Operand){args:List Aa}{x y:Value}(ha:AV γ args [x,y]){u:Aa}(h:Ay p args=some u):
  ∃v,(do eqGuard op t f c x y;binOp op t x y:Sem Value).run P w= .ok v w/\BI γ u v:=by
 unfold PT at hp;split at hp;.cases hp;obtain⟨k,a,l,b,rfl,h⟩:=zH h;obtain⟨_,_,e,hx,hy⟩:=ha.JA;cases e;rw[D9 hx,D9 hy];exact fN t f c h
 .cases hp;obtain⟨a,b,rfl,h⟩:=zI h;obtain⟨_,_,e,hx,hy⟩:=ha.JA;cases e;rw[NJ hx,NJ hy];exact fO t f c h
 .rename_i d h1 h2 hu;obtain⟨neg,Qu,g⟩:∃neg,((op= .eql/\neg=false)\/(op= .neq/\neg=true))/\S6 P t neg d=some p:=by cases op<;>first|cases hp;done|exact⟨false,.inl ⟨rfl,rfl⟩,hp⟩|exact⟨true,.inr ⟨rfl,rfl⟩,hp⟩
  clear h1 h2 hp;have hp:=g;clear g;unfold S6 at hp;split at hp
  .cases hp;simp only[Ay] at h;split at h;.obtain⟨_,_,e,hx,hy⟩:=ha.JA;cases e;cases h;rw[RL hx,RL hy];exact⟨_,fS Qu t f c hu _ _,rfl⟩
   .cases h
  .split at hp
   .rename_i hg;cases hk:OV P 20 t with
    |none=>rw[hk] at hp;cases hp
    |some ks=>
     rw[hk] at hp;cases hp;simp only[Ay] at h;split at h;.obtain⟨_,_,e,hx,hy⟩:=ha.JA;cases e;exact fR Qu hg hk ⟨_,hu⟩ hx hy h
     .cases h
   .cases hp
  .split at hp;.cases hp
   .rename_i e hz;cases hp;simp only[Ay] at h;split at h
    .rename_i a b;obtain⟨_,_,e,hx,hy⟩:=ha.JA;cases e;cases hq:qP a b with
     |none=>rw[hq] at h;cases h
     |some r=>rw[hq] at h;cases h;obtain⟨p1,p2,i⟩:=UL (w:=w) (d:=9999) hu (by cases Yd:BR P e with|none=>rw[Yd] at hz;exact absurd rfl hz|some n=>cases n with|zero=>rw[Yd] at hz;exact absurd rfl hz|succ n=>exact⟨n,rfl⟩) hx hy hq;exact⟨_,Te Qu t f c p2 i p1,rfl⟩
    .cases h
  all_goals first
   |cases hp;done
   | (cases hp
      simp only [Ay] at h
      split at h
      . rename_i a b
        obtain ⟨_, _, e, hx, hy⟩ := ha.JA
        cases e
        cases hq : qQ _ a b with
        | none => rw [hq] at h; cases h
        | some r =>
          rw [hq] at h; cases h
          obtain ⟨p1, p2, i⟩ := UM (w := w) (P := P) (t := t) (d := 9999) (by first | exact ⟨_, hu⟩ | exact ⟨_, _, hu⟩ | exact ⟨_, _, _, hu⟩) hx hy hq
          exact ⟨_, Te Qu t f c p2 i p1, rfl⟩
      . cases h)
 .cases hp
end
end Go.Am
end
section
namespace Go.Am
open Go
section
variable{P:Program}{γ:Gh}{w:World}
def Ř{op:UnOp}{a u:Aa}{x:Value}(hx:BI γ a x)(h:Ŏ op a=some u):∃v,(Op.unary op x).run P w= .ok v w/\BI γ u v:=by
 unfold Ŏ at h;split at h;.cases h;rw[RL hx];exact⟨_,rfl,rfl⟩
 .cases h;rw[D9 hx];exact⟨_,rfl,rfl⟩
 .rename_i k n;rw[D9 hx];unfold Ć at h;cases hs:PR (Op.unary .xor (.int k n)) with
  |none=>rw[hs] at h;cases h
  |some v=>
   rw[hs] at h;have b:=VU hs;simp only[Cj] at h;split at h;.cases h;exact⟨_,by rw[b];rfl,rfl⟩
   .cases h
 .cases h
def aB{src dst:TypeId}{k l k':IntKind}{n:Int}(hs:P.underlying src=some (.int l))(hd:P.underlying dst=some (.int k)):(convert src dst (.int k' n)).run P w= .ok (.int k (k.wrap n)) w:=by simp[convert,run_underlying hs,run_underlying hd,Conv.intToInt]
def aC{src dst:TypeId}{l k':IntKind}{n:Int}(hs:P.underlying src=some (.int l))(hd:P.underlying dst=some .string):(convert src dst (.int k' n)).run P w= .ok (.string (Utf8.encode n)) w:=by simp[convert,run_underlying hs,run_underlying hd,Conv.intToString]
def zJ{t:TypeId}{f off:Nat}{sh:Option Nat}(hf:H8 P t f=some (off,sh)){cs:List Aa}{x:Value}(hx:BI γ (.agg cs) x){u:Aa}(h:E1 cs off sh=some u):∃v,(Instr.field t x f).run P w= .ok v w/\BI γ u v:=by
 unfold H8 at hf;split at hf
 .rename_i fs hu;split at hf
  .rename_i fd rG;split at hf;.rename_i n b h1 h2;cases hf;obtain⟨us,rfl,hr,h1c⟩:=hx;obtain⟨v,p,q⟩:=fP (w:=w) h2 hr h1c h;exact⟨v,by simp[Instr.field,run_underlying hu,rG,asAgg,p],q⟩
   .cases hf
  .cases hf
 .cases hf
def QT{i:Int}{len j:Nat}(h:LK i len=some j):0<=i/\i<len/\i.toNat=j:=by
 unfold LK at h;split at h;.rename_i hc;cases h;exact⟨hc.1,hc.2,rfl⟩
 .cases h
def Ye{t e:TypeId}{len n:Nat}{sh:Option Nat}(ht:P.underlying t=some (.array len e))(hn:BR P e=some n)(lG:EZ P e=some sh){cs:List Aa}{x:Value}(hx:BI γ (.agg cs) x){k:IntKind}{i:Int}{j:Nat}
  (hi:LK i len=some j) {u:Aa} (h:E1 cs (j*n) sh=some u):∃v,(Instr.index t x (.int k i)).run P w= .ok v w/\BI γ u v:=by
 obtain⟨us,rfl,hr,h1c⟩:=hx;obtain⟨p1,p2,b⟩:=QT hi;obtain⟨v,p,q⟩:=fP (w:=w) lG hr h1c h;exact⟨v,by simp[Instr.index,asIntOf,run_underlying ht,p1,p2,Dv hn,b,p],q⟩
def Yf{t:TypeId}(ht:P.underlying t=some .string){s:Ak}{k:IntKind}{i:Int}{b:UInt8}(h0:0<=i)(h:s[i.toNat]?=some b):
  (Instr.index t (.string ⟨⟨s⟩⟩) (.int k i)).run P w= .ok (.int .u8 b.toNat) w:=by
 obtain⟨hlt,hb⟩:=Aj.1 h;have e:(⟨⟨s⟩⟩:ByteArray)[i.toNat]?=some b:=by rw[ByteArray.getElem?_lt' _ _ (show i.toNat<(⟨⟨s⟩⟩:ByteArray).size from hlt),<-hb];rfl
 simp[Instr.index,asIntOf,run_underlying ht,h0,e]
def rH{p u:Aa}{x:Value}{n:Nat}(hx:BI γ p x)(h:VF p n=some u):∃a,x= .pointer (some a)/\BI γ u (.pointer (some (a.add n))):=by
 unfold VF at h;split at h;.rename_i cs;cases h;obtain⟨b,o,rfl,hm⟩:=hx;refine⟨_,rfl,b,o+n,?_,hm.drop n⟩;unfold Addr.add;split<;>simp_all
 .rename_i id o;cases h;obtain⟨b,hb,rfl⟩:=hx;refine⟨_,rfl,b,hb,?_⟩;unfold Addr.add;split<;>simp_all
 .cases h
def fV{t:TypeId}{f off:Nat}{sh:Option Nat}(hf:H8 P t f=some (off,sh)){p u:Aa}{x:Value}(hx:BI γ p x)(h:VF p off=some u):∃v,(Instr.fieldAt t x f).run P w= .ok v w/\BI γ u v:=by
 obtain⟨a,rfl,hu⟩:=rH hx h;refine⟨_,?_,hu⟩;unfold H8 at hf;split at hf
 .rename_i fs zG;split at hf
  .rename_i fd rG;split at hf;.rename_i n b h1 h2;cases hf;simp[Instr.fieldAt,run_underlying zG,rG,Instr.sureAddr,fieldPlace,Dv h1]
   .cases hf
  .cases hf
 .cases hf
def l8{t e:TypeId}{n:Nat}(ht:P.underlying t=some (.slice e))(hn:BR P e=some n){s u:Aa}{x:Value}(hx:BI γ s x){k:IntKind}{i:Int}(h:elemOf n s i=some u):
  ∃v,(Instr.indexAt t x (.int k i)).run P w= .ok v w/\BI γ u v:=by
 have Ir:P.underlying t=some (.slice (P.elem t)):=by simp[Program.elem,ht]
 have he:P.elem t=e:=by simp[Program.elem,ht]
 unfold elemOf at h;split at h
 .rename_i z Aw;split at h
  .rename_i hz;subst hz;split at h
   .rename_i h0;cases hr:Aw[i.toNat]? with
    |none=>rw[hr] at h;cases h
    |some row=>
     rw[hr] at h;cases h;obtain⟨d,cap,rfl,hc,hsp,hm⟩:=hx;obtain⟨hl,c⟩:=hm.get hr;have hlt:i<Aw.length:=by have:=(Aj.1 hr).1;omega
     have mA:=ND hsp hc Ac;generalize d.block=b at*;generalize d.off=o at*;subst mA;refine⟨.pointer (some ((⟨b,o,none⟩:Addr).add (i.toNat*z))),by rw[run_indexAt_slice w t _ _ _ _ _ Ir,Af ⟨h0,hlt⟩,he,Dv hn];rfl,b,o+i.toNat*z,?_,c⟩;unfold Addr.add;split<;>simp_all
   .cases h
  .cases h
 .rename_i id off len z;split at h
  .rename_i hz;subst hz;cases hj:LK i len with
   |none=>rw[hj] at h;cases h
   |some j=>rw[hj] at h;cases h;obtain⟨p1,p2,f⟩:=QT hj;subst f;obtain⟨b,cap,hb,rfl,hc,hz⟩:=hx;refine⟨.pointer (some ((⟨b,off,none⟩:Addr).add (i.toNat*z))),by rw[run_indexAt_slice w t _ _ _ _ _ Ir,Af ⟨p1,p2⟩,he,Dv hn];rfl,b,hb,?_⟩;unfold Addr.add;split<;>simp_all
  .cases h
 .cases h
def zK{t e:TypeId}{len n:Nat}(ht:P.underlying t=some (.array len e))(hn:BR P e=some n){p u:Aa}{x:Value}(hx:BI γ p x){k:IntKind}{i:Int}{j:Nat}(hj:LK i len=some j)(h:VF p (j*n)=some u):
  ∃v,(Instr.indexAt t x (.int k i)).run P w= .ok v w/\BI γ u v:=by
 have Ir:P.underlying t=some (.array (P.arrayLen t) (P.elem t)):=by simp[Program.elem,Program.arrayLen,ht]
 have he:P.elem t=e:=by simp[Program.elem,ht]
 have hl:P.arrayLen t=len:=by simp[Program.arrayLen,ht]
 obtain⟨a,rfl,hu⟩:=rH hx h;obtain⟨p1,p2,b⟩:=QT hj;subst b;exact⟨_,by rw[run_indexAt_array w t _ _ _ Ir,hl,Af ⟨p1,p2⟩,he,Dv hn];rfl,hu⟩
def xw{t ty:TypeId}{isStr:Bool}(ht:if isStr=true then P.underlying t=some .string else∃e,P.underlying t=some (.slice e)){ts:Array TypeId}(aD:ts[0]?=some t){s u:Aa}{x:Value}(hx:BI γ s x)(h:lenOf isStr s=some u):
  ∃v,(Builtin.len_ ts ty #[x]).run P w= .ok v w/\BI γ u v:=by
 cases isStr with
 |true=>
  replace ht:P.underlying t=some .string:=ht;unfold lenOf at h;split at h<;>first|cases h;done|skip
  simp only[BD] at h;cases h;rw[NJ hx];refine⟨_,by simp[Builtin.len_,aD,run_underlying ht];rfl,rfl⟩
 |false=>
  obtain⟨e,ht⟩:∃e,P.underlying t=some (.slice e):=ht;unfold lenOf at h;split at h;.cases h;obtain⟨c,cap,rfl,_⟩:=hx;exact⟨_,by simp[Builtin.len_,aD,run_underlying ht];rfl,rfl⟩
  .cases h;obtain⟨b,cap,_,rfl,_⟩:=hx;exact⟨_,by simp[Builtin.len_,aD,run_underlying ht];rfl,rfl⟩
  .cases h;rw[show x= .slice none 0 0 from hx];exact⟨_,by simp[Builtin.len_,aD,run_underlying ht];rfl,rfl⟩
  .cases h;obtain⟨b,rfl⟩:=hx;exact⟨_,by simp[Builtin.len_,aD,run_underlying ht];rfl,rfl⟩
  .cases h
  .cases h
def xy{vs:List Aa}{x:Value}(hx:BI γ (.tuple vs) x){i:Nat}{u:Aa}(h:vs[i]?=some u):∃v,(Instr.extract x i).run P w= .ok v w/\BI γ u v:=by
 obtain⟨us,rfl,hr⟩:=hx;obtain⟨v,hv,q⟩:=hr.get h;exact⟨v,by
  have:us[i]?=some v:=by simpa using hv
  simp[Instr.extract,this],q⟩
end
end Go.Am
end
section
namespace Go.Am
open Go
section
variable{P:Program}{γ:Gh}{w:World}
def NL{n:Int}{top j:Nat}(h:Eg n top=some j):0<=n/\n<=top/\n.toNat=j:=by
 unfold Eg at h;split at h;.rename_i hc;cases h;exact⟨hc.1,hc.2,rfl⟩
 .cases h
def Kl{lo hi:Option Value}{as:List Aa}{len cap l h:Nat}{isSlice:Bool}(hb:Dx lo.isSome hi.isSome len as=some (l,h))(hr:AV γ as (lo.toList++hi.toList))(hc:len<=cap):
  (Instr.sliceBounds isSlice len cap lo hi none).run P w= .ok (l,h,cap) w/\l<=h/\h<=len:=by
 cases lo<;>cases hi<;>simp only[Option.isSome,Dx] at hb
 .split at hb;.cases hb;exact⟨by simp[Instr.sliceBounds],Bd _,Ab _⟩
  .cases hb
 .rename_i hv;split at hb
  .rename_i k h';cases b:Eg h' len with
   |none=>rw[b] at hb;cases hb
   |some j=>rw[b] at hb;cases hb;obtain⟨p1,p2,d⟩:=NL b;obtain⟨_,e,hx⟩:=hr.one;cases e;rw[D9 hx];refine⟨?_,Bd _,Ac⟩;have:h'<=(cap:Int):=Ac;simp[Instr.sliceBounds,run_sliceBound,p1,this,d]
  .cases hb
 .rename_i n;split at hb
  .rename_i k l';cases b:Eg l' len with
   |none=>rw[b] at hb;cases hb
   |some j=>rw[b] at hb;cases hb;obtain⟨p1,p2,d⟩:=NL b;obtain⟨_,e,hx⟩:=hr.one;cases e;rw[D9 hx];refine⟨?_,Ac,Ab _⟩;simp[Instr.sliceBounds,run_sliceBound,p1,p2,d]
  .cases hb
 .rename_i n hv;split at hb
  .rename_i k l' k' h';cases b:Eg h' len with
   |none=>rw[b] at hb;cases hb
   |some j=>
    rw[b] at hb;simp only[Cj] at hb;cases c:Eg l' j with
    |none=>rw[c] at hb;cases hb
    |some i=>rw[c] at hb;cases hb;obtain⟨p1,p2,d⟩:=NL b;obtain⟨m,g,f⟩:=NL c;obtain⟨_,_,e,hx,hy⟩:=hr.JA;cases e;rw[D9 hx,D9 hy];refine⟨?_,Ac,Ac⟩;have:h'<=(cap:Int):=Ac;simp[Instr.sliceBounds,run_sliceBound,p1,this,m,d,f,g]
  .cases hb
def EG.slice{Aw:List (List Aa)}{z b o:Nat}(h:EG γ Aw z b o)(l k:Nat):EG γ ((Aw.take k).drop l) z b (o+l*z):=by
 refine EG.GB λi r hi=>?_;rw[Cr,Cn] at hi;split at hi;.obtain⟨p,q⟩:=h.get hi;exact⟨p,by rw[show o+l*z+i*z=o+(l+i)*z by rw[BE];omega];exact q⟩
 .cases hi
def xz{t:TypeId}{isStr:Bool}{size:Nat}(ht:if isStr=true then P.underlying t=some .string else∃e,P.underlying t=some (.slice e)/\BR P e=some size){s u:Aa}{x:Value}(hx:BI γ s x){as:List Aa}{lo hi:Option Value}
  (hr:AV γ as (lo.toList++hi.toList)) (h:Io size isStr lo.isSome hi.isSome s as=some u):
  ∃v,(Instr.sliceAt t x lo hi none).run P w= .ok v w/\BI γ u v:=by
 unfold Io at h;split at h
 .split at h
  .rename_i s Qi;subst Qi;replace ht:P.underlying t=some .string:=ht;cases hb:Dx lo.isSome hi.isSome s.length as with
   |none=>rw[hb] at h;cases h
   |some d=>
    obtain⟨l,k⟩:=d;rw[hb] at h;cases h;obtain⟨p1,p2,f⟩:=Kl (P:=P) (w:=w) (isSlice:=false) hb hr (Ab _);rw[NJ hx,run_sliceAt_string w t _ _ _ _ ht];refine⟨.string ((⟨⟨s⟩⟩:ByteArray).extract l k),?_,?_⟩;.have e:(⟨⟨s⟩⟩:ByteArray).size=s.length:=rfl;simp only[Instr.slice,Sem.run_bind,run_underlying ht,Result.andThen_ok];simp only[e,p1,Option.isSome,Co,DO,Sem.run_bind,Sem.run_pure,Result.andThen_ok]
    .show Value.string _=Value.string _;congr 1
     apply ByteArray.ext;apply Gf;simp[ByteArray.data_extract,Hp,List.drop_take]
  .cases h
 .rename_i z Aw;split at h
  .rename_i hc;obtain⟨rfl,rfl⟩:=hc;obtain⟨e,ht,hn⟩:∃e,P.underlying t=some (.slice e)/\BR P e=some z:=ht;have Ir:P.underlying t=some (.slice (P.elem t)):=by simp[Program.elem,ht]
   have he:P.elem t=e:=by simp[Program.elem,ht]
   obtain⟨c,cap,rfl,hc,hsp,hm⟩:=hx;cases hb:Dx lo.isSome hi.isSome Aw.length as with
   |none=>rw[hb] at h;cases h
   |some d=>
    obtain⟨l,k⟩:=d;rw[hb] at h;cases h;obtain⟨p1,p2,f⟩:=Kl (P:=P) (w:=w) (isSlice:=true) hb hr hc;rw[run_sliceAt_slice w t _ _ _ _ Ir,run_slice_any w t _ _ _ Ir,p1,he,Result.andThen_ok,Dv hn];refine⟨_,rfl,?_⟩;show BI γ (.sl z ((Aw.take k).drop l)) (.slice (if cap=l then some c else Option.map (λq:Addr=>q.add (l*z)) (some c)) (k-l) (cap-l));have hlen:((Aw.take k).drop l).length=k-l:=Ed;by_cases hcl:cap=l;.have:(Aw.take k).drop l=[]:=CN Ac;rw[this];simp only[hcl,BD];exact⟨c,l-l,Ed,Ax,.inr Ac,trivial⟩
    .rw[Ag hcl];have mA:c=⟨c.block,c.off,none⟩:=by
      rcases hsp with hsp|hsp
      .cases c;simp_all
      .omega
     generalize c.block=b at*;generalize c.off=o at*;subst mA;refine⟨⟨b,o+l*z,none⟩,cap-l,?_,Ac,.inl rfl,hm.slice l k⟩;rw[hlen];simp only[Bt];unfold Addr.add;split<;>simp_all
  .cases h
 .rename_i id off n z;split at h
  .rename_i hc;obtain⟨rfl,rfl⟩:=hc;obtain⟨e,ht,hn⟩:∃e,P.underlying t=some (.slice e)/\BR P e=some z:=ht;have Ir:P.underlying t=some (.slice (P.elem t)):=by simp[Program.elem,ht]
   have he:P.elem t=e:=by simp[Program.elem,ht]
   obtain⟨b,cap,g,rfl,hc,hz,K8⟩:=hx;cases hb:Dx lo.isSome hi.isSome n as with
   |none=>rw[hb] at h;cases h
   |some d=>
    obtain⟨l,k⟩:=d;rw[hb] at h;simp only[Cj] at h;split at h
    .rename_i rI;cases h;obtain⟨p1,p2,f⟩:=Kl (P:=P) (w:=w) (isSlice:=true) hb hr hc;rw[run_sliceAt_slice w t _ _ _ _ Ir,run_slice_any w t _ _ _ Ir,p1,he,Result.andThen_ok,Dv hn];refine⟨_,rfl,b,cap-l,g,?_,Ac,⟨hz.1,Bp (Nat.sub_le _ _) hz.2⟩,?_⟩;.show Value.slice (if cap=l then some ⟨b,off,none⟩ else Option.map (λq:Addr=>q.add (l*z)) (some ⟨b,off,none⟩)) (k-l) (cap-l)=_;rw[Ag Ac];simp only[Bt];unfold Addr.add;split<;>simp_all
     .rw[K8,Rp,<-BE,aIV Ac]
    .rename_i rI;cases h;obtain⟨p1,p2,f⟩:=Kl (P:=P) (w:=w) (isSlice:=true) hb hr hc;rw[run_sliceAt_slice w t _ _ _ _ Ir,run_slice_any w t _ _ _ Ir,p1,he,Result.andThen_ok,Dv hn];have Y0:k-l=0:=Ac;by_cases hcl:cap=l;.refine⟨_,rfl,⟨b,off,none⟩,cap-l,?_,Ax,.inl rfl,trivial⟩;show Value.slice (if cap=l then some ⟨b,off,none⟩ else Option.map (λq:Addr=>q.add (l*z)) (some ⟨b,off,none⟩)) (k-l) (cap-l)=_;rw[Af hcl,Y0];rfl
     .refine⟨_,rfl,(Addr.mk b off none).add (l*z),cap-l,?_,Ax,.inl ?_,trivial⟩;.show Value.slice (if cap=l then some ⟨b,off,none⟩ else Option.map (λq:Addr=>q.add (l*z)) (some ⟨b,off,none⟩)) (k-l) (cap-l)=_;rw[Ag hcl,Y0];rfl
      .unfold Addr.add;split<;>simp_all
  .cases h
 .split at h;.cases h
  .rename_i Qi;have Qi:isStr=false:=by simpa using Qi
   subst Qi;obtain⟨e,ht,hn⟩:∃e,P.underlying t=some (.slice e)/\BR P e=some size:=ht;have Ir:P.underlying t=some (.slice (P.elem t)):=by simp[Program.elem,ht]
   have he:P.elem t=e:=by simp[Program.elem,ht]
   rw[show x= .slice none 0 0 from hx];cases hb:Dx lo.isSome hi.isSome 0 as with
   |none=>rw[hb] at h;cases h
   |some d=>obtain⟨l,k⟩:=d;rw[hb] at h;cases h;obtain⟨p1,p2,f⟩:=Kl (P:=P) (w:=w) (isSlice:=true) hb hr (Ab _);rw[run_sliceAt_slice w t _ _ _ _ Ir,run_slice_any w t _ _ _ Ir,p1,he,Result.andThen_ok,Dv hn];refine⟨_,rfl,?_⟩;have:l=0:=Ac;subst this;have:k=0:=Ac;subst this;rfl
 .cases h
end
end Go.Am
end
section
namespace Go.Am
open Go
section
variable{P:Program}{γ:Gh}{w:World}
def GX{a:Aa}{v:Value}(h:BI γ a v)(hn:0<a.cells.length):AV γ a.cells v.cells.toList/\∀u∈v.cells.toList,u.oneCell'=true:=by
 cases a with
 |agg cs=>obtain⟨us,rfl,p,q⟩:=h;exact⟨p,q⟩
 |tuple vs=>exact absurd hn (by simp[Aa.cells])
 |bool b=>rw[show v=_ from h];exact⟨⟨_,[],rfl,rfl,rfl⟩,QU⟩
 |int k n=>rw[show v=_ from h];exact⟨⟨_,[],rfl,rfl,rfl⟩,QU⟩
 |str s=>rw[show v=_ from h];exact⟨⟨_,[],rfl,rfl,rfl⟩,QU⟩
 |slnil=>rw[show v=_ from h];exact⟨⟨_,[],rfl,rfl,rfl⟩,QU⟩
 |EC z=>have h0:=h;obtain⟨b,rfl⟩:=h;exact⟨⟨_,[],rfl,h0,rfl⟩,QU⟩
 |nilFunc=>rw[show v=_ from h];exact⟨⟨_,[],rfl,rfl,rfl⟩,QU⟩
 |nilIface=>rw[show v=_ from h];exact⟨⟨_,[],rfl,rfl,rfl⟩,QU⟩
 |ptr p=>
  have h0:=h;cases p with
  |none=>rw[show v=_ from h];exact⟨⟨_,[],rfl,rfl,rfl⟩,QU⟩
  |some p=>obtain⟨i,o⟩:=p;obtain⟨b,_,rfl⟩:=h;exact⟨⟨_,[],rfl,h0,rfl⟩,QU⟩
 |BW cs=>have h0:=h;obtain⟨b,o,rfl,_⟩:=h;exact⟨⟨_,[],rfl,h0,rfl⟩,QU⟩
 |sl z Aw=>have h0:=h;obtain⟨d,cap,rfl,_⟩:=h;exact⟨⟨_,[],rfl,h0,rfl⟩,QU⟩
 |CW id off len z=>have h0:=h;obtain⟨b,cap,_,rfl,_⟩:=h;exact⟨⟨_,[],rfl,h0,rfl⟩,QU⟩
 |map m=>
  have h0:=h;cases m with
  |none=>rw[show v=_ from h];exact⟨⟨_,[],rfl,rfl,rfl⟩,QU⟩
  |some id=>obtain⟨b,_,rfl⟩:=h;exact⟨⟨_,[],rfl,h0,rfl⟩,QU⟩
 |func fn f c=>have h0:=h;obtain⟨fs,cs,rfl,_⟩:=h;exact⟨⟨_,[],rfl,h0,rfl⟩,QU⟩
 |iface t a=>have h0:=h;obtain⟨u,rfl,_⟩:=h;exact⟨⟨_,[],rfl,h0,rfl⟩,QU⟩
def NM:∀(vs:List Value) (off j:Nat) (cells:Array Value),off+j+vs.length<=cells.size->
  (vs.zipIdx j).foldl (λcs (c,i)=>cs.setIfInBounds (off+i) c) cells=(cells.toList.take (off+j)++vs++cells.toList.drop (off+j+vs.length)).toArray
 |[],off,j,cells,h=>Ax
 |v::vs,off,j,cells,h=>by
  simp only[qK,fj];rw[NM vs off (j+1) _ (by simp at h⊢;omega)];simp only[AJ] at h;have hk:off+j<cells.toList.length:=Ed;have e0:(cells.setIfInBounds (off+j) v).toList=cells.toList.set (off+j) v:=Ax;have d:(cells.toList.set (off+j) v).take (off+j+1)=cells.toList.take (off+j)++[v]:=by rw[List.take_add_one,YM (Ab _),AA hk];rfl
  have b:(cells.toList.set (off+j) v).drop (off+j+1+vs.length)=cells.toList.drop (off+j+1+vs.length):=aIW Ac;rw[e0,(Ac:off+(j+1)=off+j+1),d,b];rw[(Ed:off+j+(v::vs).length=off+j+1+vs.length)];simp
def VW{place:Nat->Option (Nat×Nat)}:∀{places:List (Nat×Nat)} {as:List Aa} {parts:List (Nat×Value)} {cs:List Aa} {us:Array Value} {Gx:List Aa},Bv cs (places.zip as)=some Gx->places.length=as.length->
  parts.map (λp=>place p.1)=places.map some->AV γ as (parts.map (·.2))->AV γ cs us.toList->(∀u∈us.toList,u.oneCell'=true)->
  ∃Dq,Instr.fill place us parts=some Dq/\AV γ Gx Dq.toList/\∀u∈Dq.toList,u.oneCell'=true
 |[],as,parts,cs,us,Gx,h,hl,hp,ha,hr,h1=>by
  have:parts=[]:=by simpa using hp
  subst this;simp only[List.zip_nil_left,Bv] at h;cases h;exact⟨us,rfl,hr,h1⟩
 |(off,size)::places,[],parts,cs,us,Gx,h,hl,hp,ha,hr,h1=>by simp at hl
 |(off,size)::places,a::as,[],cs,us,Gx,h,hl,hp,ha,hr,h1=>by simp at hp
 |(off,size)::places,a::as,(i,v)::parts,cs,us,Gx,h,hl,hp,ha,hr,h1=>by
  simp only[aMZ,Bv] at h;split at h
  .rename_i hc;obtain⟨n,m,l⟩:=hc;simp only[A0,EE] at hp;obtain⟨_,_,e,fm,ř⟩:=ha.LO;simp only[A0,EE] at e;obtain⟨k,j⟩:=e;subst k;subst j;obtain⟨b,f⟩:=GX fm Ac;have K8:v.cells.size=size:=by have:=b.length;simp at this;omega
   have YU:us.size=cs.length:=by have:=hr.length;simpa using this
   have hf:=NM v.cells.toList off 0 us (by simp[K8];omega);obtain⟨Dq,d,r2,c⟩:=VW (place:=place) (us:=(us.toList.take off++v.cells.toList++us.toList.drop (off+size)).toArray) h (by simpa using hl) hp.2 ř
    (by simpa using((hr.take off).append b).append (hr.drop (off+size)))
    (λu hu=>by
     simp only[Aq] at hu;rcases hu with(hu|hu)|hu
     .exact h1 u (A4 hu)
     .exact f u hu
     .exact h1 u (Bu hu))
   refine⟨Dq,?_,r2,c⟩;rw[Instr.fill];simp only[hp.1];rw[Ag (by simp[K8];omega)];rw[<-d];congr 1
   have g:v.cells.toList.length=size:=by simpa using K8
   rw[<-aM0,aIX,hf];simp[g]
  .cases h
def Yg{v:Value}{a:Aa}(h:KD v=some a):AV γ a.cells v.cells.toList/\∀u∈v.cells.toList,u.oneCell'=true:=by
 have hr:=E2 (γ:=γ) h;unfold KD at h;split at h
 .rename_i cs;cases hs:LA cs.toList with
  |none=>rw[hs] at h;cases h
  |some as=>rw[hs] at h;cases h;exact MJ hs
 .refine GX hr ?_;unfold OT at h;split at h<;>first|(cases h;simp[Aa.cells];done)|skip
  .split at h;.cases h;simp[Aa.cells]
   .cases h
  .cases h
def Oq{t:TypeId}{fs:Array Field}(hu:P.underlying t=some (.struct fs)){place:Nat->Option (Nat×Nat)}(rJ:∀(i:Nat) (f:Field) (n:Nat),fs[i]?=some f->BR P f.type=some n->place i=some (f.offset,n)):
  ∀{parts:List (Nat×Operand)} {ps:List (Nat×Nat)},JE P t parts=some ps->parts.map (λp=>place p.1)=ps.map some
 |[],ps,h=>by cases h;rfl
 |(i,x)::rest,ps,h=>by
  simp only[JE,hu] at h;split at h
  .rename_i f hf;split at h;.rename_i n r h1 h2;cases h;simp[rJ i f n hf h1,Oq hu rJ h2]
   .cases h
  .cases h
def O1{t e:TypeId}{len n:Nat}(hu:P.underlying t=some (.array len e))(hn:BR P e=some n):
  ∀{parts:List (Nat×Operand)} {ps:List (Nat×Nat)},JE P t parts=some ps->parts.map (λp=>some (p.1*n,n))=ps.map some
 |[],ps,h=>by cases h;rfl
 |(i,x)::rest,ps,h=>by
  simp only[JE,hu] at h;split at h
  .split at h;.rename_i n' r h1 h2;cases h;rw[hn] at h1;cases h1;simp[O1 hu hn h2]
   .cases h
  .cases h
def T3:∀(fs:List Field),(fs.all λf=>(BR P f.type).isSome)=true->∃places,fs.mapM (λf=>(P.info? f.type).map λi=>(f.offset,i.size))=some places/\
  ∀(i:Nat) (f:Field) (n:Nat),fs[i]?=some f->BR P f.type=some n->places[i]?=some (f.offset,n)
 |[],_=>⟨[],rfl,Ax⟩
 |f::fs,h=>by
  simp only[Z3,AO] at h;obtain⟨rest,h1,h2⟩:=T3 fs h.2;cases hi:P.info? f.type with
  |none=>simp[BR,hi] at h
  |some b=>
   refine⟨(f.offset,b.size)::rest,by simp[hi,h1],λi g n hg hn=>?_⟩;cases i with
   |zero=>simp at hg;subst hg;simp[BR,hi] at hn;simp[hn]
   |succ i=>simpa using h2 i g n (by simpa using hg) hn
def zL{t:TypeId}{z:Aa}{parts:Array (Nat×Operand)}{ps:List (Nat×Nat)}{O:Operand->Value}(hz:GA P t=some z)(hp:JE P t parts.toList=some ps)(hb:Vf P t=true){as:List Aa}
  (ha:AV γ as ((parts.toList.map (·.2)).map O)) {u:Aa} (h:Ay (.BV z.cells ps) as=some u):∃v,(Instr.build t (parts.map λ(i,x)=>(i,O x))).run P w= .ok v w/\BI γ u v:=by
 simp only[Ay] at h;split at h
 .rename_i hl;cases hf:Bv z.cells (ps.zip as) with
  |none=>rw[hf] at h;cases h
  |some cs=>
   rw[hf] at h;cases h;unfold GA at hz;cases hi:P.info? t with
   |none=>rw[hi] at hz;cases hz
   |some d=>
    cases Yd:d.zero with
    |none=>rw[hi] at hz;simp[Yd] at hz
    |some k=>
     rw[hi] at hz;simp only[Cj,Yd] at hz;obtain⟨c,z2⟩:=Yg (γ:=γ) hz;have hparts:((parts.map λ(i,x)=>(i,O x)).toList.map (·.2))=(parts.toList.map (·.2)).map O:=Ax;unfold Vf at hb;split at hb
     .rename_i fs hu;obtain⟨places,j,g⟩:=T3 fs.toList hb;obtain⟨Dq,f1,f2,f3⟩:=VW (place:=λi=>places.toArray[i]?) (parts:=(parts.map λ(i,x)=>(i,O x)).toList) hf hl
       (by have:=Oq hu (place:=λi=>places.toArray[i]?) (λi f n h1 h2=>by simpa using g i f n (by simpa using h1) h2) hp;rw[<-this];simp) (by rw[hparts];exact ha) c z2
      exact⟨.agg Dq,run_build w t _ _ (by unfold Program.built;simp only[hi,hu,Yd,j];exact f1),Dq,rfl,f2,f3⟩
     .rename_i len e hu;cases he:P.info? e with
      |none=>simp[BR,he] at hb
      |some b=>
       obtain⟨Dq,f1,f2,f3⟩:=VW (place:=λi=>some (i*b.size,b.size)) (parts:=(parts.map λ(i,x)=>(i,O x)).toList) hf hl
        (by have:=O1 hu (n:=b.size) (by simp[BR,he]) hp;rw[<-this];simp) (by rw[hparts];exact ha) c z2
       exact⟨.agg Dq,run_build w t _ _ (by unfold Program.built;simp only[hi,hu,Yd,he];exact f1),Dq,rfl,f2,f3⟩
     .cases hb
 .cases h
end
end Go.Am
end
section
namespace Go.Am
open Go
def X8.still:X8->Bool
 | .append _ _| .Cl _| .EC _| .s2b| .Yc=>false
 |_=>true
def GY{o:gx}{dst:Option Nat}{x:Option (List Aa)}{r:Em}(h:S8 o dst x=some r):∃args,x=some args/\r= .mem o args dst:=by
 unfold S8 at h;split at h;.cases h;exact⟨_,rfl,rfl⟩
 .cases h
def KR{o:gx}{dst:Option Nat}{x:Option (List Aa)}{p:X8}{args:List Aa}{d:Option Nat}{BM:Bool}{b:Option (Nat×Aa)}:¬S8 o dst x=some (.op p args d BM b):=λh=>by obtain⟨_,_,e⟩:=GY h;cases e
def DF{p:X8}{dst:Option Nat}{x:Option (List Aa)}{r:Em}(h:S7 p dst x=some r):∃args,x=some args/\r= .op p args dst false none:=by
 cases x with
 |none=>cases h
 |some args=>cases h;exact⟨args,rfl,rfl⟩
section
variable{C:FB}{γ0 γ:Gh}{w0 w:World}{Z:Nat->Nat}{U:BJ}{h:Ah}{a:Act}{fid:FuncId}{ops:List Oper}
def HL(P:Program)(γ:Gh)(a:Act)(o:Oper)(w:World)(p:X8)(args:List Aa):Prop:=
 ∀u,Ay p args=some u->∃v,(execOp a.eval o).run P w= .ok (.value v) w/\BI γ u v
def EA{P:Program}{s:Sem Value}{v:Value}(hs:s.run P w= .ok v w):(do pure (Next.value (<-s)):Sem Next).run P w= .ok (.value v) w:=by simp[hs]
def mB{o:Oper}{c x y:Operand}(ho:o.op= .pick c x y)(hr:CX C γ0 w0 γ Z U h a w){args:List Aa}(ha:Bm C U [c,x,y]=some args):HL C.P γ a o w .pick args:=by
 intro u hu;simp only[Ay] at hu;split at hu;.rename_i b p q;cases hu;obtain⟨_,_,_,e,h1,h2,d⟩:=(DE hr ha).YZ;simp only[A0,Dc,EE] at e;obtain⟨i,g,f,_⟩:=e;rw[<-i] at h1;rw[<-g] at h2;rw[<-f] at d;refine⟨if b then a.eval x else a.eval y,?_,by cases b<;>simpa⟩;simp[execOp,ho,RL h1,asBool]
 .cases hu
def zM{o:Oper}{op:BinOp}{t:TypeId}{x y:Operand}{p:X8}(hp:PT C.P op t=some p)(he:execOp a.eval o=(do pure (Next.value (<-(do eqGuard op t x y (a.eval x) (a.eval y);binOp op t (a.eval x) (a.eval y):Sem Value)))))
  (hr:CX C γ0 w0 γ Z U h a w) {args:List Aa} (ha:Bm C U [x,y]=some args):HL C.P γ a o w p args:=by
 intro u hu;obtain⟨v,p1,p2⟩:=fU (w:=w) hp x y (DE hr ha) hu;exact⟨v,by rw[he];exact EA p1,p2⟩
def Gn(hr:CX C γ0 w0 γ Z U h a w){x:Operand}{args:List Aa}(ha:Bm C U [x]=some args):∃u,args=[u]/\BI γ u (a.eval x):=by
 have h1:=DE hr ha;cases args with
 |nil=>cases h1
 |cons u us=>
  obtain⟨_,_,e,h2,b⟩:=h1.LO;cases e;cases us with
  |nil=>exact⟨u,rfl,h2⟩
  |cons _ _=>obtain⟨_,_,e,_⟩:=b.LO;cases e
def EP(hr:CX C γ0 w0 γ Z U h a w){x y:Operand}{args:List Aa}(ha:Bm C U [x,y]=some args):∃u v,args=[u,v]/\BI γ u (a.eval x)/\BI γ v (a.eval y):=by
 have h1:=DE hr ha;cases args with
 |nil=>cases h1
 |cons u us=>
  obtain⟨_,_,e,h2,b⟩:=h1.LO;cases e;cases us with
  |nil=>cases b
  |cons v vs=>
   obtain⟨_,_,e,d,c⟩:=b.LO;cases e;cases vs with
   |nil=>exact⟨u,v,rfl,h2,d⟩
   |cons _ _=>obtain⟨_,_,e,_⟩:=c.LO;cases e
def jl{o:Oper}{op:UnOp}{x:Operand}(he:execOp a.eval o=(do pure (Next.value (<-Op.unary op (a.eval x)))))
  (hr:CX C γ0 w0 γ Z U h a w) {args:List Aa} (ha:Bm C U [x]=some args):HL C.P γ a o w (.un op) args:=by
 intro u hu;obtain⟨v,rfl,h1⟩:=Gn hr ha;simp only[Ay] at hu;obtain⟨r,p1,p2⟩:=Ř (P:=C.P) (w:=w) h1 hu;exact⟨r,by rw[he];exact EA p1,p2⟩
def mC{o:Oper}{src dst:TypeId}{k l:IntKind}{x:Operand}(hs:C.P.underlying src=some (.int l))(hd:C.P.underlying dst=some (.int k))(he:execOp a.eval o=(do pure (Next.value (<-convert src dst (a.eval x)))))
  (hr:CX C γ0 w0 γ Z U h a w) {args:List Aa} (ha:Bm C U [x]=some args):HL C.P γ a o w (.conv k) args:=by
 intro u hu;obtain⟨v,rfl,h1⟩:=Gn hr ha;simp only[Ay] at hu;split at hu;.rename_i e;cases e;cases hu;rw[D9 h1] at he;exact⟨_,by rw[he];exact EA (aB hs hd),rfl⟩
 .cases hu
def zN{o:Oper}{src dst:TypeId}{l:IntKind}{x:Operand}(hs:C.P.underlying src=some (.int l))(hd:C.P.underlying dst=some .string)(he:execOp a.eval o=(do pure (Next.value (<-convert src dst (a.eval x)))))
  (hr:CX C γ0 w0 γ Z U h a w) {args:List Aa} (ha:Bm C U [x]=some args):HL C.P γ a o w .i2s args:=by
 intro u hu;obtain⟨v,rfl,h1⟩:=Gn hr ha;simp only[Ay] at hu;split at hu;.rename_i e;cases e;cases hu;rw[D9 h1] at he;exact⟨_,by rw[he];exact EA (aC hs hd),rfl⟩
 .cases hu
def fW{o:Oper}{t:TypeId}{x:Operand}{f off:Nat}{sh:Option Nat}(hf:H8 C.P t f=some (off,sh))(he:execOp a.eval o=(do pure (Next.value (<-Instr.field t (a.eval x) f))))
  (hr:CX C γ0 w0 γ Z U h a w) {args:List Aa} (ha:Bm C U [x]=some args):HL C.P γ a o w (.part off sh) args:=by
 intro u hu;obtain⟨v,rfl,h1⟩:=Gn hr ha;simp only[Ay] at hu;split at hu;.rename_i e;cases e;obtain⟨r,p1,p2⟩:=zJ (w:=w) hf h1 hu;exact⟨r,by rw[he];exact EA p1,p2⟩
 .cases hu
def UN{o:Oper}{t:TypeId}{x:Operand}{f off:Nat}{sh:Option Nat}(hf:H8 C.P t f=some (off,sh))(he:execOp a.eval o=(do pure (Next.value (<-Instr.fieldAt t (a.eval x) f))))
  (hr:CX C γ0 w0 γ Z U h a w) {args:List Aa} (ha:Bm C U [x]=some args):HL C.P γ a o w (.Fg off) args:=by
 intro u hu;obtain⟨v,rfl,h1⟩:=Gn hr ha;simp only[Ay] at hu;obtain⟨r,p1,p2⟩:=fV (w:=w) hf h1 hu;exact⟨r,by rw[he];exact EA p1,p2⟩
def zO{o:Oper}{x:Operand}{i:Nat}(he:execOp a.eval o=(do pure (Next.value (<-Instr.extract (a.eval x) i))))
  (hr:CX C γ0 w0 γ Z U h a w) {args:List Aa} (ha:Bm C U [x]=some args):HL C.P γ a o w (.ext i) args:=by
 intro u hu;obtain⟨v,rfl,h1⟩:=Gn hr ha;simp only[Ay] at hu;split at hu;.rename_i e;cases e;obtain⟨r,p1,p2⟩:=xy (P:=C.P) (w:=w) h1 hu;exact⟨r,by rw[he];exact EA p1,p2⟩
 .cases hu
def UO{o:Oper}{t:TypeId}{x y:Operand}(ht:C.P.underlying t=some .string)(he:execOp a.eval o=(do pure (Next.value (<-Instr.index t (a.eval x) (a.eval y)))))
  (hr:CX C γ0 w0 γ Z U h a w) {args:List Aa} (ha:Bm C U [x,y]=some args):HL C.P γ a o w .UH args:=by
 intro u hu;obtain⟨p,q,rfl,h1,h2⟩:=EP hr ha;simp only[Ay] at hu;split at hu
 .rename_i e;cases e;split at hu
  .rename_i s k i h0;cases hb:s[i.toNat]? with
   |none=>rw[hb] at hu;cases hu
   |some b=>rw[hb] at hu;cases hu;rw[NJ h1,D9 h2] at he;exact⟨_,by rw[he];exact EA (Yf ht h0 hb),rfl⟩
  .cases hu
 .cases hu
def UP{o:Oper}{t e:TypeId}{len n:Nat}{sh:Option Nat}{x y:Operand}(ht:C.P.underlying t=some (.array len e))(hn:BR C.P e=some n)(lG:EZ C.P e=some sh)(he:execOp a.eval o=(do pure (Next.value (<-Instr.index t (a.eval x) (a.eval y)))))
  (hr:CX C γ0 w0 γ Z U h a w) {args:List Aa} (ha:Bm C U [x,y]=some args):HL C.P γ a o w (.ō len n sh) args:=by
 intro u hu;obtain⟨p,q,rfl,h1,h2⟩:=EP hr ha;simp only[Ay] at hu;split at hu
 .rename_i e;cases e;rename_i cs k i;cases hb:LK i len with
  |none=>rw[hb] at hu;cases hu
  |some j=>rw[hb] at hu;simp only[Cj] at hu;rw[D9 h2] at he;obtain⟨r,p1,p2⟩:=Ye (w:=w) (k:=k) ht hn lG h1 hb hu;exact⟨r,by rw[he];exact EA p1,p2⟩
 .cases hu
def VX{o:Oper}{t e:TypeId}{n:Nat}{x y:Operand}(ht:C.P.underlying t=some (.slice e))(hn:BR C.P e=some n)(he:execOp a.eval o=(do pure (Next.value (<-Instr.indexAt t (a.eval x) (a.eval y)))))
  (hr:CX C γ0 w0 γ Z U h a w) {args:List Aa} (ha:Bm C U [x,y]=some args):HL C.P γ a o w (.FH n) args:=by
 intro u hu;obtain⟨p,q,rfl,h1,h2⟩:=EP hr ha;simp only[Ay] at hu;split at hu;.rename_i e;cases e;rename_i k i;rw[D9 h2] at he;obtain⟨r,p1,p2⟩:=l8 (w:=w) (k:=k) ht hn h1 hu;exact⟨r,by rw[he];exact EA p1,p2⟩
 .cases hu
def Yh{o:Oper}{t e:TypeId}{len n:Nat}{x y:Operand}(ht:C.P.underlying t=some (.array len e))(hn:BR C.P e=some n)(he:execOp a.eval o=(do pure (Next.value (<-Instr.indexAt t (a.eval x) (a.eval y)))))
  (hr:CX C γ0 w0 γ Z U h a w) {args:List Aa} (ha:Bm C U [x,y]=some args):HL C.P γ a o w (.TY len n) args:=by
 intro u hu;obtain⟨p,q,rfl,h1,h2⟩:=EP hr ha;simp only[Ay] at hu;split at hu
 .rename_i e;cases e;rename_i k i;cases hb:LK i len with
  |none=>rw[hb] at hu;cases hu
  |some j=>rw[hb] at hu;simp only[Cj] at hu;rw[D9 h2] at he;obtain⟨r,p1,p2⟩:=zK (w:=w) (k:=k) ht hn h1 hb hu;exact⟨r,by rw[he];exact EA p1,p2⟩
 .cases hu
def T4{o:Oper}{t:TypeId}{x:Operand}{lo hi:Option Operand}{isStr:Bool}{size:Nat}(ht:if isStr=true then C.P.underlying t=some .string else∃e,C.P.underlying t=some (.slice e)/\BR C.P e=some size)
  (he:execOp a.eval o=(do pure (Next.value (<-Instr.sliceAt t (a.eval x) (lo.map a.eval) (hi.map a.eval) none))))
  (hr:CX C γ0 w0 γ Z U h a w) {args:List Aa} (ha:Bm C U (x::(lo.toList++hi.toList))=some args):HL C.P γ a o w (.PQ size isStr lo.isSome hi.isSome) args:=by
 intro u hu;have h1:=DE hr ha;cases args with
 |nil=>cases h1
 |cons s as=>obtain⟨_,_,e,h2,b⟩:=h1.LO;cases e;simp only[Ay] at hu;obtain⟨r,p1,p2⟩:=xz (P:=C.P) (w:=w) (lo:=lo.map a.eval) (hi:=hi.map a.eval) ht h2 (by cases lo<;>cases hi<;>simpa using b) (by simpa using hu);exact⟨r,by rw[he];exact EA p1,p2⟩
def fX{o:Oper}{t:TypeId}{parts:Array (Nat×Operand)}{z:Aa}{ps:List (Nat×Nat)}(hz:GA C.P t=some z)(hp:JE C.P t parts.toList=some ps)(hb:Vf C.P t=true)
  (he:execOp a.eval o=(do pure (Next.value (<-Instr.build t (parts.map λ(i,x)=>(i,a.eval x))))))
  (hr:CX C γ0 w0 γ Z U h a w) {args:List Aa} (ha:Bm C U (parts.toList.map (·.2))=some args):HL C.P γ a o w (.BV z.cells ps) args:=by
 intro u hu;obtain⟨r,p1,p2⟩:=zL (w:=w) hz hp hb (DE hr ha) hu;exact⟨r,by rw[he];exact EA p1,p2⟩
def aE{o:Oper}{x:Operand}(ho:o.op= .nilCheck x)(hr:CX C γ0 w0 γ Z U h a w){args:List Aa}(ha:Bm C U [x]=some args):HL C.P γ a o w .LI args:=by
 intro u hu;obtain⟨v,rfl,h1⟩:=Gn hr ha;simp only[Ay,fI] at hu;split at hu;.rename_i p;cases hu;obtain⟨i,k⟩:=p;obtain⟨b,hb,hv⟩:=h1;exact⟨_,by simp only[execOp,ho,hv];rfl,b,hb,rfl⟩
 .cases hu;obtain⟨b,k,hv,hm⟩:=h1;exact⟨_,by simp only[execOp,ho,hv];rfl,b,k,rfl,hm⟩
 .cases hu;obtain⟨fs,cs,hv,p,q⟩:=h1;exact⟨_,by simp only[execOp,ho,hv];rfl,fs,cs,rfl,p,q⟩
 .cases hu
def MK:∀{xs:List Operand} {us:List Aa},Bm C U xs=some us->us.length=xs.length
 |[],us,h=>by cases h;rfl
 |x::xs,us,h=>by
  unfold Bm at h;split at h;.rename_i u Dq h1 h2;cases h;simp[MK h2]
  .cases h
def NN{P:Program}{o:Oper}{c:Call}{b:Builtin}{s:Sem Value}(ho:o.op= .call c)(hc:c.callee= .builtin b)(hs:builtin b c.argTypes o.type (c.args.map λ| .const _=>true|_=>false) (c.args.map a.eval)=(do pure (Next.value (<-s)))){v:Value}
  (hv:s.run P w= .ok v w):(execOp a.eval o).run P w= .ok (.value v) w:=by
 have:execOp a.eval o=(do pure (Next.value (<-s))):=by rw[<-hs];simp only[execOp,ho,resolve,hc];rfl
 rw[this];exact EA hv
def Y1{o:Oper}{c:Call}{t:TypeId}{isStr:Bool}(ho:o.op= .call c)(hc:c.callee= .builtin .len)(h0:c.argTypes[0]?=some t)(ht:if isStr=true then C.P.underlying t=some .string else∃e,C.P.underlying t=some (.slice e))
  (hr:CX C γ0 w0 γ Z U h a w) {args:List Aa} (ha:Bm C U c.args.toList=some args):HL C.P γ a o w (.len isStr) args:=by
 intro u hu;simp only[Ay] at hu;split at hu
 .rename_i s;have hl:=MK ha;obtain⟨x,hx⟩:∃x,c.args.toList=[x]:=aDH.1 hl.symm;rw[hx] at ha;obtain⟨_,e,h1⟩:=Gn hr ha;cases e;obtain⟨r,p1,p2⟩:=xw (P:=C.P) (w:=w) (ty:=o.type) ht h0 h1 hu;have e:c.args.map a.eval=#[a.eval x]:=by apply Gf;simp[hx]
  exact⟨r,NN ho hc (s:=Builtin.len_ c.argTypes o.type #[a.eval x]) (by rw[e];rfl) p1,p2⟩
 .cases hu
def RM{o:Oper}{c:Call}{isMax:Bool}(ho:o.op= .call c)(hc:c.callee= .builtin (if isMax then .max else .min))(hr:CX C γ0 w0 γ Z U h a w){args:List Aa}(ha:Bm C U c.args.toList=some args):HL C.P γ a o w (.Ld isMax) args:=by
 intro u hu;simp only[Ay] at hu;split at hu
 .rename_i k p l q;split at hu
  .rename_i hk;subst hk;cases hu;have hl:=MK ha;obtain⟨x,y,hx⟩:∃x y,c.args.toList=[x,y]:=by
    cases hq:c.args.toList with
    |nil=>rw[hq] at hl;simp at hl
    |cons x xs=>cases xs with
     |nil=>rw[hq] at hl;simp at hl
     |cons y ys=>cases ys with
      |nil=>exact⟨x,y,rfl⟩
      |cons _ _=>rw[hq] at hl;simp at hl
   rw[hx] at ha;obtain⟨_,_,e,h1,h2⟩:=EP hr ha;cases e;have e:c.args.map a.eval=#[.int k p,.int k q]:=by apply Gf;simp[hx,D9 h1,D9 h2]
   cases isMax with
   |true=>exact⟨_,NN ho hc (s:=Builtin.max_ c.argTypes o.type #[.int k p,.int k q]) (by rw[e];rfl) (by simp[Builtin.max_,Builtin.max2]),rfl⟩
   |false=>exact⟨_,NN ho hc (s:=Builtin.min_ c.argTypes o.type #[.int k p,.int k q]) (by rw[e];rfl) (by simp[Builtin.min_,Builtin.min2]),rfl⟩
  .cases hu
 .cases hu
end
end Go.Am
end
section
namespace Go.Am
open Go
section
variable{C:FB}{γ0 γ:Gh}{w0 w:World}{Z:Nat->Nat}{U:BJ}{h:Ah}{a:Act}{fid:FuncId}{ops:List Oper}
def Mp{x:Operand}{d:Nat}{take:Bool}{r:Em}(h:Ki C U x d take=some r):∃ws,r= .pure ws:=by
 unfold Ki at h;split at h;.cases h;exact⟨_,rfl⟩
 .cases h;exact⟨_,rfl⟩
 .split at h;.cases h;exact⟨_,rfl⟩
  .cases hc:H9 _ with
   |none=>rw[hc] at h;cases h
   |some s=>rw[hc] at h;cases h;exact⟨_,rfl⟩
 .cases hc:H9 _ with
  |none=>rw[hc] at h;cases h
  |some s=>rw[hc] at h;cases h;exact⟨_,rfl⟩
 .cases h
def Y2{t:TypeId}{v:Aa}{d:Nat}{p:X8}{args:List Aa}{dst:Option Nat}{BM:Bool}{b:Option (Nat×Aa)}:TZ C fid t v d≠some (.op p args dst BM b):=by
 unfold TZ;intro h;split at h;.cases h
 .split at h;.cases h
  .split at h<;>cases h
def mD{t:TypeId}{x:Operand}{d:Nat}{take:Bool}{p:X8}{args:List Aa}{dst:Option Nat}{BM:Bool}{b:Option (Nat×Aa)}:Lf C U t x d take≠some (.op p args dst BM b):=by
 unfold Lf;intro h;split at h;.cases h
 .split at h;.simp only at h;split at h<;>cases h
  .cases h
 .split at h<;>cases h
 .cases h
def fY{t:TypeId}{x y:Operand}{p:X8}{args:List Aa}{dst:Option Nat}{BM:Bool}{b:Option (Nat×Aa)}:I4 C U t x y≠some (.op p args dst BM b):=by
 unfold I4;intro h;split at h;.cases h
 .split at h<;>cases h
 .cases h
def zP{o:Oper}{p:X8}{args:List Aa}{dst:Option Nat}{BM:Bool}{j:Option (Nat×Aa)}(hc:FW C fid ops U o=some (.op p args dst BM j))(IP:p.still=true)(hr:CX C γ0 w0 γ Z U h a w):
  HL C.P γ a o w p args/\dst=o.dst/\BM=false/\j=none:=by
 unfold FW at hc
 split at hc
 .split at hc
  .obtain⟨ws,e⟩:=Mp hc;cases e
  .cases hc
 .split at hc
  .obtain⟨ws,e⟩:=Mp hc;cases e
  .cases hc
 .rename_i c x y ho
  split at hc
  .obtain⟨ws,e⟩:=Mp hc;cases e
  .obtain⟨ws,e⟩:=Mp hc;cases e
  .obtain⟨as,g,b⟩:=DF hc
   cases b
   exact⟨mB ho hr g,rfl,rfl,rfl⟩
 .split at hc
  .split at hc
   .split at hc<;>cases hc
   .exact absurd hc Y2
  .cases hc
 .split at hc
  .exact absurd hc Y2
  .cases hc
 .rename_i t parts ho
  split at hc
  .rename_i z ps hz hp
   split at hc
   .rename_i hb
    obtain⟨as,g,b⟩:=DF hc
    cases b
    exact⟨fX hz hp hb (by simp[execOp,ho]) hr g,rfl,rfl,rfl⟩
   .cases hc
  .cases hc
 .split at hc
  .split at hc
   .split at hc
    .split at hc
     .cases hc;cases IP
     .cases hq:Bm C U _ with
      |none=>rw[hq] at hc;cases hc
      |some q=>rw[hq] at hc;cases hc;cases IP
    .cases hc
   .cases hc
  .cases hc
 .split at hc
  .exact absurd hc mD
  .cases hc
 .split at hc
  .exact absurd hc fY
  .cases hc
 .rename_i x ho
  split at hc
  .cases hc
  .cases hc
  .obtain⟨as,g,b⟩:=DF hc
   cases b
   exact⟨aE ho hr g,rfl,rfl,rfl⟩
 .rename_i op t x y k ho
  split at hc
  .rename_i q hq
   obtain⟨as,g,b⟩:=DF hc
   cases b
   exact⟨zM hq (by simp[execOp,ho]) hr g,rfl,rfl,rfl⟩
  .cases hc
 .rename_i op t x ho
  obtain⟨as,g,b⟩:=DF hc
  cases b
  exact⟨jl (by simp[execOp,ho]) hr g,rfl,rfl,rfl⟩
 .rename_i src aI3 x ho
  split at hc
  .cases hq:EF C U x with
   |none=>rw[hq] at hc;cases hc
   |some q=>rw[hq] at hc;cases hc
  .split at hc
   .cases hq:EF C U x with
    |none=>rw[hq] at hc;cases hc
    |some q=>rw[hq] at hc;cases hc
   .obtain⟨as,g,b⟩:=DF hc
    cases b;cases IP
  .rename_i q RN eX hq
   obtain⟨as,g,b⟩:=DF hc
   cases b
   refine⟨?_,rfl,rfl,rfl⟩
   unfold VL at hq
   split at hq
   .rename_i hs hd
    cases hq
    exact mC hs hd (by simp[execOp,ho]) hr g
   .rename_i hs hd
    cases hq
    exact zN hs hd (by simp[execOp,ho]) hr g
   .cases hq
   .split at hq
    .cases hq;cases IP
    .cases hq
   .split at hq
    .cases hq;cases IP
    .cases hq
   .cases hq
  .cases hc
 .split at hc
  .cases hc
  .cases hc
 .cases hc
 .split at hc
  .split at hc<;>cases hc
  .cases hc
 .split at hc
  .split at hc<;>cases hc
  .cases hc
 .split at hc
  .split at hc<;>cases hc
  .cases hc
 .split at hc
  .split at hc<;>cases hc
  .cases hc
 .split at hc
  .split at hc
   .exact absurd hc KR
   .cases hc
  .cases hc
 .split at hc
  .cases hc
  .exact absurd hc KR
  .cases hc
 .split at hc
  .split at hc<;>first|exact absurd hc KR|cases hc
  .cases hc
 .split at hc
  .exact absurd hc KR
  .cases hc
 .rename_i t x lo hi ho
  split at hc
  .rename_i ht
   obtain⟨as,g,b⟩:=DF hc
   cases b
   exact⟨T4 (isStr:=true) ht (by simp[execOp,ho]) hr g,rfl,rfl,rfl⟩
  .rename_i e ht
   split at hc
   .rename_i n hn
    split at hc
    .exact absurd hc KR
    .obtain⟨as,g,b⟩:=DF hc
     cases b
     exact⟨T4 (isStr:=false) ⟨e,ht,hn⟩ (by simp[execOp,ho]) hr g,rfl,rfl,rfl⟩
   .cases hc
  .cases hc
 .rename_i t x f ho
  split at hc
  .rename_i off sh d hf hd
   split at hc
   .cases hc
   .cases hc
   .obtain⟨as,g,b⟩:=DF hc
    cases b
    exact⟨UN hf (by simp[execOp,ho]) hr g,hd.symm,rfl,rfl⟩
  .cases hc
 .rename_i t x f ho
  split at hc
  .rename_i off sh hf
   obtain⟨as,g,b⟩:=DF hc
   cases b
   exact⟨fW hf (by simp[execOp,ho]) hr g,rfl,rfl,rfl⟩
  .cases hc
 .rename_i t x i ho
  split at hc
  .rename_i e ht
   split at hc
   .rename_i n hn
    obtain⟨as,g,b⟩:=DF hc
    cases b
    exact⟨VX ht hn (by simp[execOp,ho]) hr g,rfl,rfl,rfl⟩
   .cases hc
  .rename_i len e ht
   split at hc
   .rename_i n hn
    split at hc
    .cases hc
    .obtain⟨as,g,b⟩:=DF hc
     cases b
     exact⟨Yh ht hn (by simp[execOp,ho]) hr g,rfl,rfl,rfl⟩
   .cases hc
  .cases hc
 .rename_i t x i ho
  split at hc
  .rename_i ht
   obtain⟨as,g,b⟩:=DF hc
   cases b
   exact⟨UO ht (by simp[execOp,ho]) hr g,rfl,rfl,rfl⟩
  .rename_i len e ht
   split at hc
   .rename_i n sh hn lG
    obtain⟨as,g,b⟩:=DF hc
    cases b
    exact⟨UP ht hn lG (by simp[execOp,ho]) hr g,rfl,rfl,rfl⟩
   .cases hc
  .cases hc
 .rename_i x i ho
  obtain⟨as,g,b⟩:=DF hc
  cases b
  exact⟨zO (by simp[execOp,ho]) hr g,rfl,rfl,rfl⟩
 .rename_i c ho
  unfold QN at hc
  split at hc
  .rename_i hcl
   split at hc
   .rename_i t h0
    split at hc
    .rename_i ht
     obtain⟨as,g,b⟩:=DF hc
     cases b
     exact⟨Y1 (isStr:=true) ho hcl h0 ht hr g,rfl,rfl,rfl⟩
    .rename_i e ht
     obtain⟨as,g,b⟩:=DF hc
     cases b
     exact⟨Y1 (isStr:=false) ho hcl h0 ⟨e,ht⟩ hr g,rfl,rfl,rfl⟩
    .cases hc
   .cases hc
  .split at hc
   .split at hc
    all_goals first
     |(cases hc;done)
     | (split at hc
        . split at hc
          . split at hc
            . split at hc
              . split at hc
                . cases hc
                . split at hc
                  . cases hc
                  . cases hc; cases IP
              . split at hc <;> cases hc
            . cases hc
          . cases hc
        . cases hc)
   .cases hc
  .split at hc
   .split at hc
    all_goals first
     |(cases hc;done)
     | (split at hc
        . exact absurd hc KR
        . cases hc)
   .cases hc
  .split at hc
   .split at hc
    .split at hc
     .exact absurd hc KR
     .cases hc
    .cases hc
   .cases hc
  .rename_i hcl
   split at hc
   .obtain⟨as,g,b⟩:=DF hc
    cases b
    exact⟨RM (isMax:=true) ho hcl hr g,rfl,rfl,rfl⟩
   .cases hc
  .rename_i hcl
   split at hc
   .obtain⟨as,g,b⟩:=DF hc
    cases b
    exact⟨RM (isMax:=false) ho hcl hr g,rfl,rfl,rfl⟩
   .cases hc
  .split at hc
   .split at hc
    .split at hc
     .exact absurd hc KR
     .cases hc
    .cases hc
   split at hc
   .cases hq:Bm C U c.args.toList with
    |none=>rw[hq] at hc;cases hc
    |some q=>
     rw[hq] at hc
     simp only[Bt,Bx] at hc
     split at hc<;>cases hc
   .cases hc
  .split at hc<;>cases hc
  .cases hc
 .cases hc
end
end Go.Am
end
