/- Lemmas -/
import Derived.Test.YtgmhlaiafgkmeaaGreatDoorN2
import Derived.Laws.Slices
set_option linter.all false
section
namespace Go.Am
open Go
section
variable{P:Program}{γ:Gh}{w:World}
def Jp{a:Bool}{v:Value}(h:Au γ (.bool a) v):v= .bool a:=h
def BP{k:IntKind}{a:Int}{v:Value}(h:Au γ (.int k a) v):v= .int k a:=h
def GX{a:Ag}{v:Value}(h:Au γ (.str a) v):v= .string ⟨⟨a⟩⟩:=h
def Ai.Vx{us:List Value}(h:Ai γ [] us):us=[]:=h
def Ai.FD{a:Aa}{l:List Aa}{us:List Value}(h:Ai γ (a::l) us):∃u By,us=u::By/\Au γ a u/\Ai γ l By:=h
def Ai.one{a:Aa}{us:List Value}(h:Ai γ [a] us):∃u,us=[u]/\Au γ a u:=by obtain⟨u,By,rfl,h1,h2⟩:=h;rw[h2.Vx];exact⟨u,rfl,h1⟩
def Ai.RZ{a b:Aa}{us:List Value}(h:Ai γ [a,b] us):∃u v,us=[u,v]/\Au γ a u/\Au γ b v:=by obtain⟨u,By,rfl,h1,h2⟩:=h;obtain⟨v,rfl,h3⟩:=h2.one;exact⟨u,v,rfl,h1,h3⟩
def Ai.QU{a b c:Aa}{us:List Value}(h:Ai γ [a,b,c] us):∃u v x,us=[u,v,x]/\Au γ a u/\Au γ b v/\Au γ c x:=by obtain⟨u,By,rfl,h1,h2⟩:=h;obtain⟨v,x,rfl,h3,h4⟩:=h2.RZ;exact⟨u,v,x,rfl,h1,h3,h4⟩
def Value.Ey:Value->Bool
 | .bool _| .pointer _| .slice _ _ _| .func _ _ _| .nilFunc| .map _=>true
 |_=>false
def J5{op:BinOp}{neg:Bool}(PC:(op= .eql/\neg=false)\/(op= .neq/\neg=true))(t:TypeId)(ox oy:Operand){x y:Value}(hx:Value.Ey x=true)(hy:Value.Ey y=true){e:Bool}
  (he:(Op.equal t x y).run P w= .ok e w):(do eqGuard op t ox oy x y;binOp op t x y:Sem Value).run P w= .ok (.bool (e != neg)) w:=by
 have hg:eqGuard op t ox oy x y=pure ():=by rcases PC with⟨rfl,_⟩|⟨rfl,_⟩<;>cases x<;>simp[Value.Ey] at hx<;>rfl
 rw[hg];rcases PC with⟨rfl,rfl⟩|⟨rfl,rfl⟩
 .have hb:binOp .eql t x y=(do pure (.bool (<-Op.equal t x y))):=by cases x<;>simp[Value.Ey] at hx<;>cases y<;>simp[Value.Ey] at hy<;>rfl
  simp[hb,he]
 .have hb:binOp .neq t x y=(do pure (.bool (!(<-Op.equal t x y)))):=by cases x<;>simp[Value.Ey] at hx<;>cases y<;>simp[Value.Ey] at hy<;>rfl
  simp[hb,he]
def Ok{op:BinOp}{neg:Bool}(PC:(op= .eql/\neg=false)\/(op= .neq/\neg=true))(t:TypeId)(ox oy:Operand)(ht:P.underlying t=some .bool)(a b:Bool):
  (do eqGuard op t ox oy (.bool a) (.bool b);binOp op t (.bool a) (.bool b):Sem Value).run P w= .ok (.bool ((a==b) != neg)) w:=
 J5 PC t ox oy rfl rfl (run_equalIn_bool' w 9999 t a b ht)
def KX{d:Nat}{t e:TypeId}(ht:P.underlying t=some (.pointer e))(hz:∃n,Az P e=some (n+1)){a b:Aa}{x y:Value}(hx:Au γ a x)(hy:Au γ b y){r:Bool}(h:QD a b=some r):
  (Op.equalIn (d+1) t x y).run P w= .ok r w/\Value.Ey x=true/\Value.Ey y=true:=by
 obtain⟨n,hn⟩:=hz;unfold QD at h;split at h
 .rename_i q;cases h;rw[show x= .pointer none from hx];have:∃p,y= .pointer p/\p.isNone=q.isNone:=by
   cases q with
   |none=>exact⟨none,hy,rfl⟩
   |some p=>obtain⟨i,o⟩:=p;obtain⟨b,_,rfl⟩:=hy;exact⟨_,rfl,rfl⟩
  obtain⟨p,rfl,hp⟩:=this;exact⟨by simp[Op.equalIn,run_underlying ht,hp],rfl,rfl⟩
 .rename_i p;cases h;obtain⟨i,o⟩:=p;obtain⟨b,_,rfl⟩:=hx;rw[show y= .pointer none from hy];exact⟨by simp[Op.equalIn,run_underlying ht],rfl,rfl⟩
 .rename_i p q;split at h;.rename_i he;cases h;subst he;obtain⟨i,o⟩:=p;obtain⟨b,hb,rfl⟩:=hx;obtain⟨b',J3,rfl⟩:=hy;rw[hb] at J3;cases J3;exact⟨by simp[Op.equalIn,run_underlying ht,BC hn,sameAddr],rfl,rfl⟩
  .cases h
 .cases h;rw[show x= .pointer none from hx];obtain⟨b,o,rfl,_⟩:=hy;exact⟨by simp[Op.equalIn,run_underlying ht],rfl,rfl⟩
 .cases h;rw[show y= .pointer none from hy];obtain⟨b,o,rfl,_⟩:=hx;exact⟨by simp[Op.equalIn,run_underlying ht],rfl,rfl⟩
 .cases h
def BY{d:Nat}{t e:TypeId}(ht:P.underlying t=some (.slice e)){p q:Option Addr}{n c m k:Nat}(h:p=none\/q=none):
  (Op.equalIn (d+1) t (.slice p n c) (.slice q m k)).run P w= .ok (p.isNone&&q.isNone) w:=by
 cases p<;>cases q<;>simp at h<;>simp[Op.equalIn,run_underlying ht]
def FE{d:Nat}{t:TypeId}{a b:Array TypeId}{c:Bool}(ht:P.underlying t=some (.func a b c)){f:Fn}{x y:Array Value}:
  (Op.equalIn (d+1) t .nilFunc .nilFunc).run P w= .ok true w/\(Op.equalIn (d+1) t .nilFunc (.func f x y)).run P w= .ok false w/\(Op.equalIn (d+1) t (.func f x y) .nilFunc).run P w= .ok false w:=by
 refine⟨?_,?_,?_⟩<;>simp[Op.equalIn,run_underlying ht]
def Fh{d:Nat}{t k e:TypeId}(ht:P.underlying t=some (.map k e)){p q:Option Nat}(h:p=none\/q=none):
  (Op.equalIn (d+1) t (.map p) (.map q)).run P w= .ok (p.isNone&&q.isNone) w:=by
 cases p<;>cases q<;>simp at h<;>simp[Op.equalIn,run_underlying ht]
def KY{d:Nat}{t:TypeId}{k:NK}(ht:match k with| .sl=>∃e,P.underlying t=some (.slice e)| .fn=>∃a b c,P.underlying t=some (.func a b c)| .mp=>∃a b,P.underlying t=some (.map a b))
  {a b:Aa} {x y:Value} (hx:Au γ a x) (hy:Au γ b y) {r:Bool} (h:QE k a b=some r):
  (Op.equalIn (d+1) t x y).run P w= .ok r w/\Value.Ey x=true/\Value.Ey y=true:=by
 unfold QE at h;split at h;case h_1=>obtain⟨e,ht⟩:=ht;cases h;rw[show x= .slice none 0 0 from hx,show y= .slice none 0 0 from hy];exact⟨BY ht (.inl rfl),rfl,rfl⟩
 case h_2=>obtain⟨e,ht⟩:=ht;cases h;rw[show x= .slice none 0 0 from hx];obtain⟨_,_,rfl,_⟩:=hy;exact⟨BY ht (.inl rfl),rfl,rfl⟩
 case h_3=>obtain⟨e,ht⟩:=ht;cases h;rw[show y= .slice none 0 0 from hy];obtain⟨_,_,rfl,_⟩:=hx;exact⟨BY ht (.inr rfl),rfl,rfl⟩
 case h_4=>obtain⟨e,ht⟩:=ht;cases h;rw[show x= .slice none 0 0 from hx];obtain⟨_,rfl⟩:=hy;exact⟨BY ht (.inl rfl),rfl,rfl⟩
 case h_5=>obtain⟨e,ht⟩:=ht;cases h;rw[show y= .slice none 0 0 from hy];obtain⟨_,rfl⟩:=hx;exact⟨BY ht (.inr rfl),rfl,rfl⟩
 case h_6=>obtain⟨e,ht⟩:=ht;cases h;rw[show x= .slice none 0 0 from hx];obtain⟨_,_,_,rfl,_⟩:=hy;exact⟨BY ht (.inl rfl),rfl,rfl⟩
 case h_7=>obtain⟨e,ht⟩:=ht;cases h;rw[show y= .slice none 0 0 from hy];obtain⟨_,_,_,rfl,_⟩:=hx;exact⟨BY ht (.inr rfl),rfl,rfl⟩
 case h_8=>obtain⟨_,_,_,ht⟩:=ht;cases h;rw[show x= .nilFunc from hx,show y= .nilFunc from hy];exact⟨(FE ht (f:= .func 0) (x:=#[]) (y:=#[])).1,rfl,rfl⟩
 case h_9=>obtain⟨_,_,_,ht⟩:=ht;cases h;rw[show x= .nilFunc from hx];obtain⟨_,_,rfl,_⟩:=hy;exact⟨(FE ht).2.1,rfl,rfl⟩
 case h_10=>obtain⟨_,_,_,ht⟩:=ht;cases h;rw[show y= .nilFunc from hy];obtain⟨_,_,rfl,_⟩:=hx;exact⟨(FE ht).2.2,rfl,rfl⟩
 case h_11=>
  rename_i q;obtain⟨_,_,ht⟩:=ht;cases h;rw[show x= .map none from hx];cases q with
  |none=>rw[show y= .map none from hy];exact⟨Fh ht (.inl rfl),rfl,rfl⟩
  |some id=>obtain⟨b,_,rfl⟩:=hy;exact⟨Fh ht (.inl rfl),rfl,rfl⟩
 case h_12=>obtain⟨_,_,ht⟩:=ht;cases h;rw[show y= .map none from hy];obtain⟨b,_,rfl⟩:=hx;exact⟨Fh ht (.inr rfl),rfl,rfl⟩
 .cases h
def R2{op:BinOp}{args:List Aa}{u:Aa}(h:AA (.int op) args=some u):∃k a l b,args=[.int k a,.int l b]/\QB op k a l b=some u:=by
 simp only[AA] at h;split at h;.exact⟨_,_,_,_,rfl,h⟩
 .cases h
def R4{op:BinOp}{args:List Aa}{u:Aa}(h:AA (.str op) args=some u):∃a b,args=[.str a,.str b]/\QC op a b=some u:=by
 simp only[AA] at h;split at h;.exact⟨_,_,rfl,h⟩
 .cases h
def Ol{op:BinOp}{t:TypeId}{p:Mm}(hp:H3 P op t=some p)(ox oy:Operand){args:List Aa}{x y:Value}(ha:Ai γ args [x,y]){u:Aa}(h:AA p args=some u):
  ∃v,(do eqGuard op t ox oy x y;binOp op t x y:Sem Value).run P w= .ok v w/\Au γ u v:=by
 unfold H3 at hp;split at hp;.cases hp;obtain⟨k,a,l,b,rfl,h⟩:=R2 h;obtain⟨_,_,e,hx,hy⟩:=ha.RZ;cases e;rw[BP hx,BP hy];exact Of t ox oy h
 .cases hp;obtain⟨a,b,rfl,h⟩:=R4 h;obtain⟨_,_,e,hx,hy⟩:=ha.RZ;cases e;rw[GX hx,GX hy];exact Og t ox oy h
 .rename_i d h1 h2 hu;obtain⟨neg,PC,fK⟩:∃neg,((op= .eql/\neg=false)\/(op= .neq/\neg=true))/\JW P t neg d=some p:=by cases op<;>first|cases hp;done|exact⟨false,.inl ⟨rfl,rfl⟩,hp⟩|exact⟨true,.inr ⟨rfl,rfl⟩,hp⟩
  clear h1 h2 hp;have hp:=fK;clear fK;unfold JW at hp;split at hp
  .cases hp;simp only[AA] at h;split at h;.obtain⟨_,_,e,hx,hy⟩:=ha.RZ;cases e;cases h;rw[Jp hx,Jp hy];exact⟨_,Ok PC t ox oy hu _ _,rfl⟩
   .cases h
  .split at hp
   .rename_i hg;cases hk:Hr P 20 t with
    |none=>rw[hk] at hp;cases hp
    |some ks=>
     rw[hk] at hp;cases hp;simp only[AA] at h;split at h;.obtain⟨_,_,e,hx,hy⟩:=ha.RZ;cases e;exact Oj PC hg hk ⟨_,hu⟩ hx hy h
     .cases h
   .cases hp
  .split at hp;.cases hp
   .rename_i e hz;cases hp;simp only[AA] at h;split at h
    .rename_i a b;obtain⟨_,_,e,hx,hy⟩:=ha.RZ;cases e;cases hq:QD a b with
     |none=>rw[hq] at h;cases h
     |some r=>rw[hq] at h;cases h;obtain⟨p1,p2,p3⟩:=KX (w:=w) (d:=9999) hu (by cases Mq:Az P e with|none=>rw[Mq] at hz;exact absurd rfl hz|some n=>cases n with|zero=>rw[Mq] at hz;exact absurd rfl hz|succ n=>exact⟨n,rfl⟩) hx hy hq;exact⟨_,J5 PC t ox oy p2 p3 p1,rfl⟩
    .cases h
  all_goals first
   |cases hp;done
   | (cases hp
      simp only [AA] at h
      split at h
      . rename_i a b
        obtain ⟨_, _, e, hx, hy⟩ := ha.RZ
        cases e
        cases hq : QE _ a b with
        | none => rw [hq] at h; cases h
        | some r =>
          rw [hq] at h; cases h
          obtain ⟨p1, p2, p3⟩ := KY (w := w) (P := P) (t := t) (d := 9999) (by first | exact ⟨_, hu⟩ | exact ⟨_, _, hu⟩ | exact ⟨_, _, _, hu⟩) hx hy hq
          exact ⟨_, J5 PC t ox oy p2 p3 p1, rfl⟩
      . cases h)
 .cases hp
end
end Go.Am
end
section
namespace Go.Am
open Go
section
variable{P:Program}{γ:Gh}{w:World}
def aR{op:UnOp}{a u:Aa}{x:Value}(hx:Au γ a x)(h:aG op a=some u):∃v,(Op.unary op x).run P w= .ok v w/\Au γ u v:=by
 unfold aG at h;split at h;.cases h;rw[Jp hx];exact⟨_,rfl,rfl⟩
 .cases h;rw[BP hx];exact⟨_,rfl,rfl⟩
 .rename_i k n;rw[BP hx];unfold Zr at h;cases hs:H0 (Op.unary .xor (.int k n)) with
  |none=>rw[hs] at h;cases h
  |some v=>
   rw[hs] at h;have e1:=Ly hs;simp only[Bx] at h;split at h;.cases h;exact⟨_,by rw[e1];rfl,rfl⟩
   .cases h
 .cases h
def Nt{src dst:TypeId}{k l k':IntKind}{n:Int}(hs:P.underlying src=some (.int l))(hd:P.underlying dst=some (.int k)):(convert src dst (.int k' n)).run P w= .ok (.int k (k.wrap n)) w:=by simp[convert,run_underlying hs,run_underlying hd,Conv.intToInt]
def Nu{src dst:TypeId}{l k':IntKind}{n:Int}(hs:P.underlying src=some (.int l))(hd:P.underlying dst=some .string):(convert src dst (.int k' n)).run P w= .ok (.string (Utf8.encode n)) w:=by simp[convert,run_underlying hs,run_underlying hd,Conv.intToString]
def R5{t:TypeId}{f off:Nat}{sh:Option Nat}(hf:DK P t f=some (off,sh)){cs:List Aa}{x:Value}(hx:Au γ (.agg cs) x){u:Aa}(h:Cj cs off sh=some u):∃v,(Instr.field t x f).run P w= .ok v w/\Au γ u v:=by
 unfold DK at hf;split at hf
 .rename_i fs hu;split at hf
  .rename_i fd Vo;split at hf;.rename_i n wC h1 h2;cases hf;obtain⟨us,rfl,hr,h1c⟩:=hx;obtain⟨v,p,q⟩:=Oh (w:=w) h2 hr h1c h;exact⟨v,by simp[Instr.field,run_underlying hu,Vo,asAgg,p],q⟩
   .cases hf
  .cases hf
 .cases hf
def IH{i:Int}{len j:Nat}(h:F0 i len=some j):0<=i/\i<len/\i.toNat=j:=by
 unfold F0 at h;split at h;.rename_i hc;cases h;exact⟨hc.1,hc.2,rfl⟩
 .cases h
def Mr{t e:TypeId}{len n:Nat}{sh:Option Nat}(ht:P.underlying t=some (.array len e))(hn:Az P e=some n)(Ph:Cg P e=some sh){cs:List Aa}{x:Value}(hx:Au γ (.agg cs) x){k:IntKind}{i:Int}{j:Nat}
  (hi:F0 i len=some j) {u:Aa} (h:Cj cs (j*n) sh=some u):∃v,(Instr.index t x (.int k i)).run P w= .ok v w/\Au γ u v:=by
 obtain⟨us,rfl,hr,h1c⟩:=hx;obtain⟨p1,p2,p3⟩:=IH hi;obtain⟨v,p,q⟩:=Oh (w:=w) Ph hr h1c h;exact⟨v,by simp[Instr.index,asIntOf,run_underlying ht,p1,p2,BC hn,p3,p],q⟩
def Ms{t:TypeId}(ht:P.underlying t=some .string){s:Ag}{k:IntKind}{i:Int}{b:UInt8}(h0:0<=i)(h:s[i.toNat]?=some b):
  (Instr.index t (.string ⟨⟨s⟩⟩) (.int k i)).run P w= .ok (.int .u8 b.toNat) w:=by
 obtain⟨hlt,hb⟩:=Af.1 h;have e:(⟨⟨s⟩⟩:ByteArray)[i.toNat]?=some b:=by rw[ByteArray.getElem?_lt' _ _ (show i.toNat<(⟨⟨s⟩⟩:ByteArray).size from hlt),<-hb];rfl
 simp[Instr.index,asIntOf,run_underlying ht,h0,e]
def QV{p u:Aa}{x:Value}{n:Nat}(hx:Au γ p x)(h:Li p n=some u):∃a,x= .pointer (some a)/\Au γ u (.pointer (some (a.add n))):=by
 unfold Li at h;split at h;.rename_i cs;cases h;obtain⟨b,o,rfl,hm⟩:=hx;refine⟨_,rfl,b,o+n,?_,hm.drop n⟩;unfold Addr.add;split<;>simp_all
 .rename_i id o;cases h;obtain⟨b,hb,rfl⟩:=hx;refine⟨_,rfl,b,hb,?_⟩;unfold Addr.add;split<;>simp_all
 .cases h
def Om{t:TypeId}{f off:Nat}{sh:Option Nat}(hf:DK P t f=some (off,sh)){p u:Aa}{x:Value}(hx:Au γ p x)(h:Li p off=some u):∃v,(Instr.fieldAt t x f).run P w= .ok v w/\Au γ u v:=by
 obtain⟨a,rfl,hu⟩:=QV hx h;refine⟨_,?_,hu⟩;unfold DK at hf;split at hf
 .rename_i fs TB;split at hf
  .rename_i fd Vo;split at hf;.rename_i n wC h1 h2;cases hf;simp[Instr.fieldAt,run_underlying TB,Vo,Instr.sureAddr,fieldPlace,BC h1]
   .cases hf
  .cases hf
 .cases hf
def PD{t e:TypeId}{n:Nat}(ht:P.underlying t=some (.slice e))(hn:Az P e=some n){s u:Aa}{x:Value}(hx:Au γ s x){k:IntKind}{i:Int}(h:elemOf n s i=some u):
  ∃v,(Instr.indexAt t x (.int k i)).run P w= .ok v w/\Au γ u v:=by
 have Ek:P.underlying t=some (.slice (P.elem t)):=by simp[Program.elem,ht]
 have he:P.elem t=e:=by simp[Program.elem,ht]
 unfold elemOf at h;split at h
 .rename_i z Ac;split at h
  .rename_i hz;subst hz;split at h
   .rename_i h0;cases hr:Ac[i.toNat]? with
    |none=>rw[hr] at h;cases h
    |some row=>
     rw[hr] at h;cases h;obtain⟨ad,cap,rfl,hc,hsp,hm⟩:=hx;obtain⟨hl,fL⟩:=hm.get hr;have hlt:i<Ac.length:=by have:=(Af.1 hr).1;omega
     have PE:=GR hsp hc (by omega);generalize ad.block=b at*;generalize ad.off=o at*;subst PE;refine⟨.pointer (some ((⟨b,o,none⟩:Addr).add (i.toNat*z))),by rw[run_indexAt_slice w t _ _ _ _ _ Ek,if_pos ⟨h0,hlt⟩,he,BC hn];rfl,b,o+i.toNat*z,?_,fL⟩;unfold Addr.add;split<;>simp_all
   .cases h
  .cases h
 .rename_i id off len z;split at h
  .rename_i hz;subst hz;cases hj:F0 i len with
   |none=>rw[hj] at h;cases h
   |some j=>rw[hj] at h;cases h;obtain⟨p1,p2,p3⟩:=IH hj;subst p3;obtain⟨b,cap,hb,rfl,hc,hz⟩:=hx;refine⟨.pointer (some ((⟨b,off,none⟩:Addr).add (i.toNat*z))),by rw[run_indexAt_slice w t _ _ _ _ _ Ek,if_pos ⟨p1,p2⟩,he,BC hn];rfl,b,hb,?_⟩;unfold Addr.add;split<;>simp_all
  .cases h
 .cases h
def R6{t e:TypeId}{len n:Nat}(ht:P.underlying t=some (.array len e))(hn:Az P e=some n){p u:Aa}{x:Value}(hx:Au γ p x){k:IntKind}{i:Int}{j:Nat}(hj:F0 i len=some j)(h:Li p (j*n)=some u):
  ∃v,(Instr.indexAt t x (.int k i)).run P w= .ok v w/\Au γ u v:=by
 have Ek:P.underlying t=some (.array (P.arrayLen t) (P.elem t)):=by simp[Program.elem,Program.arrayLen,ht]
 have he:P.elem t=e:=by simp[Program.elem,ht]
 have hl:P.arrayLen t=len:=by simp[Program.arrayLen,ht]
 obtain⟨a,rfl,hu⟩:=QV hx h;obtain⟨p1,p2,p3⟩:=IH hj;subst p3;exact⟨_,by rw[run_indexAt_array w t _ _ _ Ek,hl,if_pos ⟨p1,p2⟩,he,BC hn];rfl,hu⟩
def Vy{t ty:TypeId}{isStr:Bool}(ht:if isStr=true then P.underlying t=some .string else∃e,P.underlying t=some (.slice e)){ts:Array TypeId}(Nv:ts[0]?=some t){s u:Aa}{x:Value}(hx:Au γ s x)(h:lenOf isStr s=some u):
  ∃v,(Builtin.len_ ts ty #[x]).run P w= .ok v w/\Au γ u v:=by
 cases isStr with
 |true=>
  replace ht:P.underlying t=some .string:=ht;unfold lenOf at h;split at h<;>first|cases h;done|skip
  simp only[Bc] at h;cases h;rw[GX hx];refine⟨_,by simp[Builtin.len_,Nv,run_underlying ht];rfl,rfl⟩
 |false=>
  obtain⟨e,ht⟩:∃e,P.underlying t=some (.slice e):=ht;unfold lenOf at h;split at h;.cases h;obtain⟨ad,cap,rfl,_⟩:=hx;exact⟨_,by simp[Builtin.len_,Nv,run_underlying ht];rfl,rfl⟩
  .cases h;obtain⟨b,cap,_,rfl,_⟩:=hx;exact⟨_,by simp[Builtin.len_,Nv,run_underlying ht];rfl,rfl⟩
  .cases h;rw[show x= .slice none 0 0 from hx];exact⟨_,by simp[Builtin.len_,Nv,run_underlying ht];rfl,rfl⟩
  .cases h;obtain⟨b,rfl⟩:=hx;exact⟨_,by simp[Builtin.len_,Nv,run_underlying ht];rfl,rfl⟩
  .cases h
  .cases h
def Vz{vs:List Aa}{x:Value}(hx:Au γ (.tuple vs) x){i:Nat}{u:Aa}(h:vs[i]?=some u):∃v,(Instr.extract x i).run P w= .ok v w/\Au γ u v:=by
 obtain⟨us,rfl,hr⟩:=hx;obtain⟨v,hv,q⟩:=hr.get h;exact⟨v,by
  have:us[i]?=some v:=by simpa using hv
  simp[Instr.extract,this],q⟩
end
end Go.Am
end
section
namespace Go.Am
open Go
section
variable{P:Program}{γ:Gh}{w:World}
def GY{n:Int}{top j:Nat}(h:Fl n top=some j):0<=n/\n<=top/\n.toNat=j:=by
 unfold Fl at h;split at h;.rename_i hc;cases h;exact⟨hc.1,hc.2,rfl⟩
 .cases h
def ER{lo hi:Option Value}{as:List Aa}{len cap l h:Nat}{isSlice:Bool}(hb:CT lo.isSome hi.isSome len as=some (l,h))(hr:Ai γ as (lo.toList++hi.toList))(hc:len<=cap):
  (Instr.sliceBounds isSlice len cap lo hi none).run P w= .ok (l,h,cap) w/\l<=h/\h<=len:=by
 cases lo<;>cases hi<;>simp only[Option.isSome,CT] at hb
 .split at hb;.cases hb;exact⟨by simp[Instr.sliceBounds],D0 _,Ap _⟩
  .cases hb
 .rename_i hv;split at hb
  .rename_i k h';cases hh:Fl h' len with
   |none=>rw[hh] at hb;cases hb
   |some j=>
    rw[hh] at hb;cases hb;obtain⟨p1,p2,p3⟩:=GY hh;obtain⟨_,e,hx⟩:=hr.one;cases e;rw[BP hx];refine⟨?_,D0 _,by omega⟩;have:h'<=(cap:Int):=by omega
    simp[Instr.sliceBounds,run_sliceBound,p1,this,p3]
  .cases hb
 .rename_i lv;split at hb
  .rename_i k l';cases hh:Fl l' len with
   |none=>rw[hh] at hb;cases hb
   |some j=>rw[hh] at hb;cases hb;obtain⟨p1,p2,p3⟩:=GY hh;obtain⟨_,e,hx⟩:=hr.one;cases e;rw[BP hx];refine⟨?_,by omega,Ap _⟩;simp[Instr.sliceBounds,run_sliceBound,p1,p2,p3]
  .cases hb
 .rename_i lv hv;split at hb
  .rename_i k l' k' h';cases hh:Fl h' len with
   |none=>rw[hh] at hb;cases hb
   |some j=>
    rw[hh] at hb;simp only[Bx] at hb;cases rR:Fl l' j with
    |none=>rw[rR] at hb;cases hb
    |some i=>
     rw[rR] at hb;cases hb;obtain⟨p1,p2,p3⟩:=GY hh;obtain⟨q1,q2,q3⟩:=GY rR;obtain⟨_,_,e,hx,hy⟩:=hr.RZ;cases e;rw[BP hx,BP hy];refine⟨?_,by omega,by omega⟩;have:h'<=(cap:Int):=by omega
     simp[Instr.sliceBounds,run_sliceBound,p1,this,q1,p3,q3,q2]
  .cases hb
def B3.slice{Ac:List (List Aa)}{z b o:Nat}(h:B3 γ Ac z b o)(l k:Nat):B3 γ ((Ac.take k).drop l) z b (o+l*z):=by
 refine B3.C2 λi r hi=>?_;rw[Bg,A0] at hi;split at hi;.obtain⟨p,q⟩:=h.get hi;exact⟨p,by rw[show o+l*z+i*z=o+(l+i)*z by rw[AI];omega];exact q⟩
 .cases hi
def VA{t:TypeId}{isStr:Bool}{size:Nat}(ht:if isStr=true then P.underlying t=some .string else∃e,P.underlying t=some (.slice e)/\Az P e=some size){s u:Aa}{x:Value}(hx:Au γ s x){as:List Aa}{lo hi:Option Value}
  (hr:Ai γ as (lo.toList++hi.toList)) (h:Jc size isStr lo.isSome hi.isSome s as=some u):
  ∃v,(Instr.sliceAt t x lo hi none).run P w= .ok v w/\Au γ u v:=by
 unfold Jc at h;split at h
 .split at h
  .rename_i s Ii;subst Ii;replace ht:P.underlying t=some .string:=ht;cases hb:CT lo.isSome hi.isSome s.length as with
   |none=>rw[hb] at h;cases h
   |some lh=>
    obtain⟨l,k⟩:=lh;rw[hb] at h;cases h;obtain⟨p1,p2,p3⟩:=ER (P:=P) (w:=w) (isSlice:=false) hb hr (Ap _);rw[GX hx,run_sliceAt_string w t _ _ _ _ ht];refine⟨.string ((⟨⟨s⟩⟩:ByteArray).extract l k),?_,?_⟩;.have e:(⟨⟨s⟩⟩:ByteArray).size=s.length:=rfl;simp only[Instr.slice,Sem.run_bind,run_underlying ht,Result.andThen_ok];simp only[e,p1,Option.isSome,B5,JN,Sem.run_bind,Sem.run_pure,Result.andThen_ok]
    .show Value.string _=Value.string _;congr 1
     apply ByteArray.ext;apply Dh;simp[ByteArray.data_extract,Dn,List.drop_take]
  .cases h
 .rename_i z Ac;split at h
  .rename_i hc;obtain⟨rfl,rfl⟩:=hc;obtain⟨e,ht,hn⟩:∃e,P.underlying t=some (.slice e)/\Az P e=some z:=ht;have Ek:P.underlying t=some (.slice (P.elem t)):=by simp[Program.elem,ht]
   have he:P.elem t=e:=by simp[Program.elem,ht]
   obtain⟨ad,cap,rfl,hc,hsp,hm⟩:=hx;cases hb:CT lo.isSome hi.isSome Ac.length as with
   |none=>rw[hb] at h;cases h
   |some lh=>
    obtain⟨l,k⟩:=lh;rw[hb] at h;cases h;obtain⟨p1,p2,p3⟩:=ER (P:=P) (w:=w) (isSlice:=true) hb hr hc;rw[run_sliceAt_slice w t _ _ _ _ Ek,run_slice_any w t _ _ _ Ek,p1,he,Result.andThen_ok,BC hn];refine⟨_,rfl,?_⟩;show Au γ (.sl z ((Ac.take k).drop l)) (.slice (if cap=l then some ad else Option.map (λq:Addr=>q.add (l*z)) (some ad)) (k-l) (cap-l));have hlen:((Ac.take k).drop l).length=k-l:=by simp;omega
    by_cases hcl:cap=l;.have:(Ac.take k).drop l=[]:=Bq (by omega);rw[this];simp only[hcl,Bc];exact⟨ad,l-l,by simp;omega,by simp,.inr (by omega),trivial⟩
    .rw[if_neg hcl];have PE:ad=⟨ad.block,ad.off,none⟩:=by
      rcases hsp with hsp|hsp
      .cases ad;simp_all
      .omega
     generalize ad.block=b at*;generalize ad.off=o at*;subst PE;refine⟨⟨b,o+l*z,none⟩,cap-l,?_,by omega,.inl rfl,hm.slice l k⟩;rw[hlen];simp only[A3];unfold Addr.add;split<;>simp_all
  .cases h
 .rename_i id off n z;split at h
  .rename_i hc;obtain⟨rfl,rfl⟩:=hc;obtain⟨e,ht,hn⟩:∃e,P.underlying t=some (.slice e)/\Az P e=some z:=ht;have Ek:P.underlying t=some (.slice (P.elem t)):=by simp[Program.elem,ht]
   have he:P.elem t=e:=by simp[Program.elem,ht]
   obtain⟨b,cap,qM,rfl,hc,hz,Fc⟩:=hx;cases hb:CT lo.isSome hi.isSome n as with
   |none=>rw[hb] at h;cases h
   |some lh=>
    obtain⟨l,k⟩:=lh;rw[hb] at h;simp only[Bx] at h;split at h
    .rename_i zB;cases h;obtain⟨p1,p2,p3⟩:=ER (P:=P) (w:=w) (isSlice:=true) hb hr hc;rw[run_sliceAt_slice w t _ _ _ _ Ek,run_slice_any w t _ _ _ Ek,p1,he,Result.andThen_ok,BC hn];refine⟨_,rfl,b,cap-l,qM,?_,by omega,⟨hz.1,AX (Nat.sub_le _ _) hz.2⟩,?_⟩;.show Value.slice (if cap=l then some ⟨b,off,none⟩ else Option.map (λq:Addr=>q.add (l*z)) (some ⟨b,off,none⟩)) (k-l) (cap-l)=_;rw[if_neg (by omega)];simp only[A3];unfold Addr.add;split<;>simp_all
     .rw[Fc,Ng,<-AI,rE (by omega)]
    .rename_i zB;cases h;obtain⟨p1,p2,p3⟩:=ER (P:=P) (w:=w) (isSlice:=true) hb hr hc;rw[run_sliceAt_slice w t _ _ _ _ Ek,run_slice_any w t _ _ _ Ek,p1,he,Result.andThen_ok,BC hn];have qN:k-l=0:=by omega
     by_cases hcl:cap=l;.refine⟨_,rfl,⟨b,off,none⟩,cap-l,?_,by simp,.inl rfl,trivial⟩;show Value.slice (if cap=l then some ⟨b,off,none⟩ else Option.map (λq:Addr=>q.add (l*z)) (some ⟨b,off,none⟩)) (k-l) (cap-l)=_;rw[if_pos hcl,qN];rfl
     .refine⟨_,rfl,(Addr.mk b off none).add (l*z),cap-l,?_,by simp,.inl ?_,trivial⟩;.show Value.slice (if cap=l then some ⟨b,off,none⟩ else Option.map (λq:Addr=>q.add (l*z)) (some ⟨b,off,none⟩)) (k-l) (cap-l)=_;rw[if_neg hcl,qN];rfl
      .unfold Addr.add;split<;>simp_all
  .cases h
 .split at h;.cases h
  .rename_i Ii;have Ii:isStr=false:=by simpa using Ii
   subst Ii;obtain⟨e,ht,hn⟩:∃e,P.underlying t=some (.slice e)/\Az P e=some size:=ht;have Ek:P.underlying t=some (.slice (P.elem t)):=by simp[Program.elem,ht]
   have he:P.elem t=e:=by simp[Program.elem,ht]
   rw[show x= .slice none 0 0 from hx];cases hb:CT lo.isSome hi.isSome 0 as with
   |none=>rw[hb] at h;cases h
   |some lh=>
    obtain⟨l,k⟩:=lh;rw[hb] at h;cases h;obtain⟨p1,p2,p3⟩:=ER (P:=P) (w:=w) (isSlice:=true) hb hr (Ap _);rw[run_sliceAt_slice w t _ _ _ _ Ek,run_slice_any w t _ _ _ Ek,p1,he,Result.andThen_ok,BC hn];refine⟨_,rfl,?_⟩;have:l=0:=by omega
    subst this;have:k=0:=by omega
    subst this;rfl
 .cases h
end
end Go.Am
end
section
namespace Go.Am
open Go
section
variable{P:Program}{γ:Gh}{w:World}
def Dd{a:Aa}{v:Value}(h:Au γ a v)(hn:0<a.cells.length):Ai γ a.cells v.cells.toList/\∀u∈v.cells.toList,u.oneCell'=true:=by
 cases a with
 |agg cs=>obtain⟨us,rfl,p,q⟩:=h;exact⟨p,q⟩
 |tuple vs=>exact absurd hn (by simp[Aa.cells])
 |bool b=>rw[show v=_ from h];exact⟨⟨_,[],rfl,rfl,rfl⟩,by simp[Value.cells,Value.oneCell']⟩
 |int k n=>rw[show v=_ from h];exact⟨⟨_,[],rfl,rfl,rfl⟩,by simp[Value.cells,Value.oneCell']⟩
 |str s=>rw[show v=_ from h];exact⟨⟨_,[],rfl,rfl,rfl⟩,by simp[Value.cells,Value.oneCell']⟩
 |slnil=>rw[show v=_ from h];exact⟨⟨_,[],rfl,rfl,rfl⟩,by simp[Value.cells,Value.oneCell']⟩
 |DU z=>have h0:=h;obtain⟨b,rfl⟩:=h;exact⟨⟨_,[],rfl,h0,rfl⟩,by simp[Value.cells,Value.oneCell']⟩
 |nilFunc=>rw[show v=_ from h];exact⟨⟨_,[],rfl,rfl,rfl⟩,by simp[Value.cells,Value.oneCell']⟩
 |nilIface=>rw[show v=_ from h];exact⟨⟨_,[],rfl,rfl,rfl⟩,by simp[Value.cells,Value.oneCell']⟩
 |ptr p=>
  have h0:=h;cases p with
  |none=>rw[show v=_ from h];exact⟨⟨_,[],rfl,rfl,rfl⟩,by simp[Value.cells,Value.oneCell']⟩
  |some p=>obtain⟨i,o⟩:=p;obtain⟨b,_,rfl⟩:=h;exact⟨⟨_,[],rfl,h0,rfl⟩,by simp[Value.cells,Value.oneCell']⟩
 |A9 cs=>have h0:=h;obtain⟨b,o,rfl,_⟩:=h;exact⟨⟨_,[],rfl,h0,rfl⟩,by simp[Value.cells,Value.oneCell']⟩
 |sl z Ac=>have h0:=h;obtain⟨ad,cap,rfl,_⟩:=h;exact⟨⟨_,[],rfl,h0,rfl⟩,by simp[Value.cells,Value.oneCell']⟩
 |EG id off len z=>have h0:=h;obtain⟨b,cap,_,rfl,_⟩:=h;exact⟨⟨_,[],rfl,h0,rfl⟩,by simp[Value.cells,Value.oneCell']⟩
 |map m=>
  have h0:=h;cases m with
  |none=>rw[show v=_ from h];exact⟨⟨_,[],rfl,rfl,rfl⟩,by simp[Value.cells,Value.oneCell']⟩
  |some id=>obtain⟨b,_,rfl⟩:=h;exact⟨⟨_,[],rfl,h0,rfl⟩,by simp[Value.cells,Value.oneCell']⟩
 |func fn f c=>have h0:=h;obtain⟨fs,cs,rfl,_⟩:=h;exact⟨⟨_,[],rfl,h0,rfl⟩,by simp[Value.cells,Value.oneCell']⟩
 |iface t a=>have h0:=h;obtain⟨u,rfl,_⟩:=h;exact⟨⟨_,[],rfl,h0,rfl⟩,by simp[Value.cells,Value.oneCell']⟩
def GZ:∀(vs:List Value) (off j:Nat) (cells:Array Value),off+j+vs.length<=cells.size->
  (vs.zipIdx j).foldl (λcs (c,i)=>cs.setIfInBounds (off+i) c) cells=(cells.toList.take (off+j)++vs++cells.toList.drop (off+j+vs.length)).toArray
 |[],off,j,cells,h=>by simp
 |v::vs,off,j,cells,h=>by
  simp only[Qw,SX];rw[GZ vs off (j+1) _ (by simp at h⊢;omega)];simp only[AF] at h;have hk:off+j<cells.toList.length:=by simp;omega
  have e0:(cells.setIfInBounds (off+j) v).toList=cells.toList.set (off+j) v:=by simp
  have e1:(cells.toList.set (off+j) v).take (off+j+1)=cells.toList.take (off+j)++[v]:=by rw[List.take_add_one,List.take_set_of_le (Ap _),AD hk];rfl
  have e2:(cells.toList.set (off+j) v).drop (off+j+1+vs.length)=cells.toList.drop (off+j+1+vs.length):=List.drop_set_of_lt (by omega);rw[e0,show off+(j+1)=off+j+1 by omega,e1,e2];rw[show off+j+(v::vs).length=off+j+1+vs.length by simp;omega];simp
def LB{place:Nat->Option (Nat×Nat)}:∀{places:List (Nat×Nat)} {as:List Aa} {parts:List (Nat×Value)} {cs:List Aa} {us:Array Value} {Dz:List Aa},GN cs (places.zip as)=some Dz->places.length=as.length->
  parts.map (λp=>place p.1)=places.map some->Ai γ as (parts.map (·.2))->Ai γ cs us.toList->(∀u∈us.toList,u.oneCell'=true)->
  ∃By,Instr.fill place us parts=some By/\Ai γ Dz By.toList/\∀u∈By.toList,u.oneCell'=true
 |[],as,parts,cs,us,Dz,h,hl,hp,ha,hr,h1=>by
  have:parts=[]:=by simpa using hp
  subst this;simp only[List.zip_nil_left,GN] at h;cases h;exact⟨us,rfl,hr,h1⟩
 |(off,size)::places,[],parts,cs,us,Dz,h,hl,hp,ha,hr,h1=>by simp at hl
 |(off,size)::places,a::as,[],cs,us,Dz,h,hl,hp,ha,hr,h1=>by simp at hp
 |(off,size)::places,a::as,(i,v)::parts,cs,us,Dz,h,hl,hp,ha,hr,h1=>by
  simp only[N6,GN] at h;split at h
  .rename_i hc;obtain⟨c1,c2,c3⟩:=hc;simp only[Be,Cs] at hp;obtain⟨_,_,e,zC,aS⟩:=ha.FD;simp only[Be,Cs] at e;obtain⟨e1,e2⟩:=e;subst e1;subst e2;obtain⟨q1,q2⟩:=Dd zC (by omega);have Fc:v.cells.size=size:=by have:=q1.length;simp at this;omega
   have ML:us.size=cs.length:=by have:=hr.length;simpa using this
   have hf:=GZ v.cells.toList off 0 us (by simp[Fc];omega);obtain⟨By,r1,r2,r3⟩:=LB (place:=place) (us:=(us.toList.take off++v.cells.toList++us.toList.drop (off+size)).toArray) h (by simpa using hl) hp.2 aS
    (by simpa using((hr.take off).append q1).append (hr.drop (off+size)))
    (λu hu=>by
     simp only[Aj] at hu;rcases hu with(hu|hu)|hu
     .exact h1 u (AQ hu)
     .exact q2 u hu
     .exact h1 u (Bu hu))
   refine⟨By,?_,r2,r3⟩;rw[Instr.fill];simp only[hp.1];rw[if_neg (by simp[Fc];omega)];rw[<-r1];congr 1
   have e5:v.cells.toList.length=size:=by simpa using Fc
   rw[<-vW,rF,hf];simp[e5]
  .cases h
def Mt{v:Value}{a:Aa}(h:EX v=some a):Ai γ a.cells v.cells.toList/\∀u∈v.cells.toList,u.oneCell'=true:=by
 have hr:=Cm (γ:=γ) h;unfold EX at h;split at h
 .rename_i cs;cases hs:Fv cs.toList with
  |none=>rw[hs] at h;cases h
  |some as=>rw[hs] at h;cases h;exact Gj hs
 .refine Dd hr ?_;unfold Ho at h;split at h<;>first|(cases h;simp[Aa.cells];done)|skip
  .split at h;.cases h;simp[Aa.cells]
   .cases h
  .cases h
def Hc{t:TypeId}{fs:Array Field}(hu:P.underlying t=some (.struct fs)){place:Nat->Option (Nat×Nat)}(VB:∀(i:Nat) (f:Field) (n:Nat),fs[i]?=some f->Az P f.type=some n->place i=some (f.offset,n)):
  ∀{parts:List (Nat×Operand)} {ps:List (Nat×Nat)},Ew P t parts=some ps->parts.map (λp=>place p.1)=ps.map some
 |[],ps,h=>by cases h;rfl
 |(i,x)::rest,ps,h=>by
  simp only[Ew,hu] at h;split at h
  .rename_i f hf;split at h;.rename_i n r h1 h2;cases h;simp[VB i f n hf h1,Hc hu VB h2]
   .cases h
  .cases h
def Hy{t e:TypeId}{len n:Nat}(hu:P.underlying t=some (.array len e))(hn:Az P e=some n):
  ∀{parts:List (Nat×Operand)} {ps:List (Nat×Nat)},Ew P t parts=some ps->parts.map (λp=>some (p.1*n,n))=ps.map some
 |[],ps,h=>by cases h;rfl
 |(i,x)::rest,ps,h=>by
  simp only[Ew,hu] at h;split at h
  .split at h;.rename_i n' r h1 h2;cases h;rw[hn] at h1;cases h1;simp[Hy hu hn h2]
   .cases h
  .cases h
def Ky:∀(fs:List Field),(fs.all λf=>(Az P f.type).isSome)=true->∃places,fs.mapM (λf=>(P.info? f.type).map λi=>(f.offset,i.size))=some places/\
  ∀(i:Nat) (f:Field) (n:Nat),fs[i]?=some f->Az P f.type=some n->places[i]?=some (f.offset,n)
 |[],_=>⟨[],rfl,by simp⟩
 |f::fs,h=>by
  simp only[Nh,Ao] at h;obtain⟨rest,h1,h2⟩:=Ky fs h.2;cases hi:P.info? f.type with
  |none=>simp[Az,hi] at h
  |some ti=>
   refine⟨(f.offset,ti.size)::rest,by simp[hi,h1],λi g n hg hn=>?_⟩;cases i with
   |zero=>simp at hg;subst hg;simp[Az,hi] at hn;simp[hn]
   |succ i=>simpa using h2 i g n (by simpa using hg) hn
def R7{t:TypeId}{z:Aa}{parts:Array (Nat×Operand)}{ps:List (Nat×Nat)}{O:Operand->Value}(hz:C1 P t=some z)(hp:Ew P t parts.toList=some ps)(hb:K9 P t=true){as:List Aa}
  (ha:Ai γ as ((parts.toList.map (·.2)).map O)) {u:Aa} (h:AA (.Bn z.cells ps) as=some u):∃v,(Instr.build t (parts.map λ(i,x)=>(i,O x))).run P w= .ok v w/\Au γ u v:=by
 simp only[AA] at h;split at h
 .rename_i hl;cases hf:GN z.cells (ps.zip as) with
  |none=>rw[hf] at h;cases h
  |some cs=>
   rw[hf] at h;cases h;unfold C1 at hz;cases hi:P.info? t with
   |none=>rw[hi] at hz;cases hz
   |some ti=>
    cases Mq:ti.zero with
    |none=>rw[hi] at hz;simp[Mq] at hz
    |some zv=>
     rw[hi] at hz;simp only[Bx,Mq] at hz;obtain⟨z1,z2⟩:=Mt (γ:=γ) hz;have hparts:((parts.map λ(i,x)=>(i,O x)).toList.map (·.2))=(parts.toList.map (·.2)).map O:=by simp
     unfold K9 at hb;split at hb
     .rename_i fs hu;obtain⟨places,m1,m2⟩:=Ky fs.toList hb;obtain⟨By,f1,f2,f3⟩:=LB (place:=λi=>places.toArray[i]?) (parts:=(parts.map λ(i,x)=>(i,O x)).toList) hf hl
       (by have:=Hc hu (place:=λi=>places.toArray[i]?) (λi f n h1 h2=>by simpa using m2 i f n (by simpa using h1) h2) hp;rw[<-this];simp) (by rw[hparts];exact ha) z1 z2
      exact⟨.agg By,run_build w t _ _ (by unfold Program.built;simp only[hi,hu,Mq,m1];exact f1),By,rfl,f2,f3⟩
     .rename_i len e hu;cases he:P.info? e with
      |none=>simp[Az,he] at hb
      |some ei=>
       obtain⟨By,f1,f2,f3⟩:=LB (place:=λi=>some (i*ei.size,ei.size)) (parts:=(parts.map λ(i,x)=>(i,O x)).toList) hf hl
        (by have:=Hy hu (n:=ei.size) (by simp[Az,he]) hp;rw[<-this];simp) (by rw[hparts];exact ha) z1 z2
       exact⟨.agg By,run_build w t _ _ (by unfold Program.built;simp only[hi,hu,Mq,he];exact f1),By,rfl,f2,f3⟩
     .cases hb
 .cases h
end
end Go.Am
end
section
namespace Go.Am
open Go
def Mm.still:Mm->Bool
 | .append _ _| .BD _| .DU _| .fG| .Oa=>false
 |_=>true
def De{o:S6}{dst:Option Nat}{x:Option (List Aa)}{r:BV}(h:JY o dst x=some r):∃args,x=some args/\r= .mem o args dst:=by
 unfold JY at h;split at h;.cases h;exact⟨_,rfl,rfl⟩
 .cases h
def E8{o:S6}{dst:Option Nat}{x:Option (List Aa)}{p:Mm}{args:List Aa}{d:Option Nat}{A5:Bool}{dem:Option (Nat×Aa)}:¬JY o dst x=some (.op p args d A5 dem):=λh=>by obtain⟨_,_,e⟩:=De h;cases e
def BG{p:Mm}{dst:Option Nat}{x:Option (List Aa)}{r:BV}(h:JX p dst x=some r):∃args,x=some args/\r= .op p args dst false none:=by
 cases x with
 |none=>cases h
 |some args=>cases h;exact⟨args,rfl,rfl⟩
section
variable{C:CB}{γ0 γ:Gh}{w0 w:World}{Z:Nat->Nat}{U:Av}{h:Ab}{a:Act}{fid:FuncId}{ops:List Oper}
def DD(P:Program)(γ:Gh)(a:Act)(o:Oper)(w:World)(p:Mm)(args:List Aa):Prop:=
 ∀u,AA p args=some u->∃v,(execOp a.eval o).run P w= .ok (.value v) w/\Au γ u v
def B1{P:Program}{s:Sem Value}{v:Value}(hs:s.run P w= .ok v w):(do pure (Next.value (<-s)):Sem Next).run P w= .ok (.value v) w:=by simp[hs]
def PF{o:Oper}{c x y:Operand}(ho:o.op= .pick c x y)(hr:Bk C γ0 w0 γ Z U h a w){args:List Aa}(ha:Ak C U [c,x,y]=some args):DD C.P γ a o w .pick args:=by
 intro u hu;simp only[AA] at hu;split at hu;.rename_i b p q;cases hu;obtain⟨_,_,_,e,h1,h2,h3⟩:=(BF hr ha).QU;simp only[Be,FN,Cs] at e;obtain⟨e1,e2,e3,_⟩:=e;rw[<-e1] at h1;rw[<-e2] at h2;rw[<-e3] at h3;refine⟨if b then a.eval x else a.eval y,?_,by cases b<;>simpa⟩;simp[execOp,ho,Jp h1,asBool]
 .cases hu
def Sa{o:Oper}{op:BinOp}{t:TypeId}{x y:Operand}{p:Mm}(hp:H3 C.P op t=some p)(he:execOp a.eval o=(do pure (Next.value (<-(do eqGuard op t x y (a.eval x) (a.eval y);binOp op t (a.eval x) (a.eval y):Sem Value)))))
  (hr:Bk C γ0 w0 γ Z U h a w) {args:List Aa} (ha:Ak C U [x,y]=some args):DD C.P γ a o w p args:=by
 intro u hu;obtain⟨v,p1,p2⟩:=Ol (w:=w) hp x y (BF hr ha) hu;exact⟨v,by rw[he];exact B1 p1,p2⟩
def CW(hr:Bk C γ0 w0 γ Z U h a w){x:Operand}{args:List Aa}(ha:Ak C U [x]=some args):∃u,args=[u]/\Au γ u (a.eval x):=by
 have h1:=BF hr ha;cases args with
 |nil=>cases h1
 |cons u us=>
  obtain⟨_,_,e,h2,h3⟩:=h1.FD;cases e;cases us with
  |nil=>exact⟨u,rfl,h2⟩
  |cons _ _=>obtain⟨_,_,e,_⟩:=h3.FD;cases e
def B9(hr:Bk C γ0 w0 γ Z U h a w){x y:Operand}{args:List Aa}(ha:Ak C U [x,y]=some args):∃u v,args=[u,v]/\Au γ u (a.eval x)/\Au γ v (a.eval y):=by
 have h1:=BF hr ha;cases args with
 |nil=>cases h1
 |cons u us=>
  obtain⟨_,_,e,h2,h3⟩:=h1.FD;cases e;cases us with
  |nil=>cases h3
  |cons v vs=>
   obtain⟨_,_,e,h4,h5⟩:=h3.FD;cases e;cases vs with
   |nil=>exact⟨u,v,rfl,h2,h4⟩
   |cons _ _=>obtain⟨_,_,e,_⟩:=h5.FD;cases e
def TC{o:Oper}{op:UnOp}{x:Operand}(he:execOp a.eval o=(do pure (Next.value (<-Op.unary op (a.eval x)))))
  (hr:Bk C γ0 w0 γ Z U h a w) {args:List Aa} (ha:Ak C U [x]=some args):DD C.P γ a o w (.un op) args:=by
 intro u hu;obtain⟨v,rfl,h1⟩:=CW hr ha;simp only[AA] at hu;obtain⟨r,p1,p2⟩:=aR (P:=C.P) (w:=w) h1 hu;exact⟨r,by rw[he];exact B1 p1,p2⟩
def PG{o:Oper}{src dst:TypeId}{k l:IntKind}{x:Operand}(hs:C.P.underlying src=some (.int l))(hd:C.P.underlying dst=some (.int k))(he:execOp a.eval o=(do pure (Next.value (<-convert src dst (a.eval x)))))
  (hr:Bk C γ0 w0 γ Z U h a w) {args:List Aa} (ha:Ak C U [x]=some args):DD C.P γ a o w (.conv k) args:=by
 intro u hu;obtain⟨v,rfl,h1⟩:=CW hr ha;simp only[AA] at hu;split at hu;.rename_i e;cases e;cases hu;rw[BP h1] at he;exact⟨_,by rw[he];exact B1 (Nt hs hd),rfl⟩
 .cases hu
def Sb{o:Oper}{src dst:TypeId}{l:IntKind}{x:Operand}(hs:C.P.underlying src=some (.int l))(hd:C.P.underlying dst=some .string)(he:execOp a.eval o=(do pure (Next.value (<-convert src dst (a.eval x)))))
  (hr:Bk C γ0 w0 γ Z U h a w) {args:List Aa} (ha:Ak C U [x]=some args):DD C.P γ a o w .rM args:=by
 intro u hu;obtain⟨v,rfl,h1⟩:=CW hr ha;simp only[AA] at hu;split at hu;.rename_i e;cases e;cases hu;rw[BP h1] at he;exact⟨_,by rw[he];exact B1 (Nu hs hd),rfl⟩
 .cases hu
def On{o:Oper}{t:TypeId}{x:Operand}{f off:Nat}{sh:Option Nat}(hf:DK C.P t f=some (off,sh))(he:execOp a.eval o=(do pure (Next.value (<-Instr.field t (a.eval x) f))))
  (hr:Bk C γ0 w0 γ Z U h a w) {args:List Aa} (ha:Ak C U [x]=some args):DD C.P γ a o w (.part off sh) args:=by
 intro u hu;obtain⟨v,rfl,h1⟩:=CW hr ha;simp only[AA] at hu;split at hu;.rename_i e;cases e;obtain⟨r,p1,p2⟩:=R5 (w:=w) hf h1 hu;exact⟨r,by rw[he];exact B1 p1,p2⟩
 .cases hu
def KZ{o:Oper}{t:TypeId}{x:Operand}{f off:Nat}{sh:Option Nat}(hf:DK C.P t f=some (off,sh))(he:execOp a.eval o=(do pure (Next.value (<-Instr.fieldAt t (a.eval x) f))))
  (hr:Bk C γ0 w0 γ Z U h a w) {args:List Aa} (ha:Ak C U [x]=some args):DD C.P γ a o w (.CS off) args:=by
 intro u hu;obtain⟨v,rfl,h1⟩:=CW hr ha;simp only[AA] at hu;obtain⟨r,p1,p2⟩:=Om (w:=w) hf h1 hu;exact⟨r,by rw[he];exact B1 p1,p2⟩
def Sc{o:Oper}{x:Operand}{i:Nat}(he:execOp a.eval o=(do pure (Next.value (<-Instr.extract (a.eval x) i))))
  (hr:Bk C γ0 w0 γ Z U h a w) {args:List Aa} (ha:Ak C U [x]=some args):DD C.P γ a o w (.ext i) args:=by
 intro u hu;obtain⟨v,rfl,h1⟩:=CW hr ha;simp only[AA] at hu;split at hu;.rename_i e;cases e;obtain⟨r,p1,p2⟩:=Vz (P:=C.P) (w:=w) h1 hu;exact⟨r,by rw[he];exact B1 p1,p2⟩
 .cases hu
def K0{o:Oper}{t:TypeId}{x y:Operand}(ht:C.P.underlying t=some .string)(he:execOp a.eval o=(do pure (Next.value (<-Instr.index t (a.eval x) (a.eval y)))))
  (hr:Bk C γ0 w0 γ Z U h a w) {args:List Aa} (ha:Ak C U [x,y]=some args):DD C.P γ a o w .KT args:=by
 intro u hu;obtain⟨p,q,rfl,h1,h2⟩:=B9 hr ha;simp only[AA] at hu;split at hu
 .rename_i e;cases e;split at hu
  .rename_i s k i h0;cases hb:s[i.toNat]? with
   |none=>rw[hb] at hu;cases hu
   |some b=>rw[hb] at hu;cases hu;rw[GX h1,BP h2] at he;exact⟨_,by rw[he];exact B1 (Ms ht h0 hb),rfl⟩
  .cases hu
 .cases hu
def K1{o:Oper}{t e:TypeId}{len n:Nat}{sh:Option Nat}{x y:Operand}(ht:C.P.underlying t=some (.array len e))(hn:Az C.P e=some n)(Ph:Cg C.P e=some sh)(he:execOp a.eval o=(do pure (Next.value (<-Instr.index t (a.eval x) (a.eval y)))))
  (hr:Bk C γ0 w0 γ Z U h a w) {args:List Aa} (ha:Ak C U [x,y]=some args):DD C.P γ a o w (.aF len n sh) args:=by
 intro u hu;obtain⟨p,q,rfl,h1,h2⟩:=B9 hr ha;simp only[AA] at hu;split at hu
 .rename_i e;cases e;rename_i cs k i;cases hb:F0 i len with
  |none=>rw[hb] at hu;cases hu
  |some j=>rw[hb] at hu;simp only[Bx] at hu;rw[BP h2] at he;obtain⟨r,p1,p2⟩:=Mr (w:=w) (k:=k) ht hn Ph h1 hb hu;exact⟨r,by rw[he];exact B1 p1,p2⟩
 .cases hu
def LC{o:Oper}{t e:TypeId}{n:Nat}{x y:Operand}(ht:C.P.underlying t=some (.slice e))(hn:Az C.P e=some n)(he:execOp a.eval o=(do pure (Next.value (<-Instr.indexAt t (a.eval x) (a.eval y)))))
  (hr:Bk C γ0 w0 γ Z U h a w) {args:List Aa} (ha:Ak C U [x,y]=some args):DD C.P γ a o w (.Hn n) args:=by
 intro u hu;obtain⟨p,q,rfl,h1,h2⟩:=B9 hr ha;simp only[AA] at hu;split at hu;.rename_i e;cases e;rename_i k i;rw[BP h2] at he;obtain⟨r,p1,p2⟩:=PD (w:=w) (k:=k) ht hn h1 hu;exact⟨r,by rw[he];exact B1 p1,p2⟩
 .cases hu
def Mu{o:Oper}{t e:TypeId}{len n:Nat}{x y:Operand}(ht:C.P.underlying t=some (.array len e))(hn:Az C.P e=some n)(he:execOp a.eval o=(do pure (Next.value (<-Instr.indexAt t (a.eval x) (a.eval y)))))
  (hr:Bk C γ0 w0 γ Z U h a w) {args:List Aa} (ha:Ak C U [x,y]=some args):DD C.P γ a o w (.Kt len n) args:=by
 intro u hu;obtain⟨p,q,rfl,h1,h2⟩:=B9 hr ha;simp only[AA] at hu;split at hu
 .rename_i e;cases e;rename_i k i;cases hb:F0 i len with
  |none=>rw[hb] at hu;cases hu
  |some j=>rw[hb] at hu;simp only[Bx] at hu;rw[BP h2] at he;obtain⟨r,p1,p2⟩:=R6 (w:=w) (k:=k) ht hn h1 hb hu;exact⟨r,by rw[he];exact B1 p1,p2⟩
 .cases hu
def Kz{o:Oper}{t:TypeId}{x:Operand}{lo hi:Option Operand}{isStr:Bool}{size:Nat}(ht:if isStr=true then C.P.underlying t=some .string else∃e,C.P.underlying t=some (.slice e)/\Az C.P e=some size)
  (he:execOp a.eval o=(do pure (Next.value (<-Instr.sliceAt t (a.eval x) (lo.map a.eval) (hi.map a.eval) none))))
  (hr:Bk C γ0 w0 γ Z U h a w) {args:List Aa} (ha:Ak C U (x::(lo.toList++hi.toList))=some args):DD C.P γ a o w (.Ku size isStr lo.isSome hi.isSome) args:=by
 intro u hu;have h1:=BF hr ha;cases args with
 |nil=>cases h1
 |cons s as=>obtain⟨_,_,e,h2,h3⟩:=h1.FD;cases e;simp only[AA] at hu;obtain⟨r,p1,p2⟩:=VA (P:=C.P) (w:=w) (lo:=lo.map a.eval) (hi:=hi.map a.eval) ht h2 (by cases lo<;>cases hi<;>simpa using h3) (by simpa using hu);exact⟨r,by rw[he];exact B1 p1,p2⟩
def Oo{o:Oper}{t:TypeId}{parts:Array (Nat×Operand)}{z:Aa}{ps:List (Nat×Nat)}(hz:C1 C.P t=some z)(hp:Ew C.P t parts.toList=some ps)(hb:K9 C.P t=true)
  (he:execOp a.eval o=(do pure (Next.value (<-Instr.build t (parts.map λ(i,x)=>(i,a.eval x))))))
  (hr:Bk C γ0 w0 γ Z U h a w) {args:List Aa} (ha:Ak C U (parts.toList.map (·.2))=some args):DD C.P γ a o w (.Bn z.cells ps) args:=by
 intro u hu;obtain⟨r,p1,p2⟩:=R7 (w:=w) hz hp hb (BF hr ha) hu;exact⟨r,by rw[he];exact B1 p1,p2⟩
def Nw{o:Oper}{x:Operand}(ho:o.op= .nilCheck x)(hr:Bk C γ0 w0 γ Z U h a w){args:List Aa}(ha:Ak C U [x]=some args):DD C.P γ a o w .Gd args:=by
 intro u hu;obtain⟨v,rfl,h1⟩:=CW hr ha;simp only[AA,Ob] at hu;split at hu;.rename_i p;cases hu;obtain⟨i,k⟩:=p;obtain⟨b,hb,hv⟩:=h1;exact⟨_,by simp only[execOp,ho,hv];rfl,b,hb,rfl⟩
 .cases hu;obtain⟨b,k,hv,hm⟩:=h1;exact⟨_,by simp only[execOp,ho,hv];rfl,b,k,rfl,hm⟩
 .cases hu;obtain⟨fs,cs,hv,p,q⟩:=h1;exact⟨_,by simp only[execOp,ho,hv];rfl,fs,cs,rfl,p,q⟩
 .cases hu
def Gk:∀{xs:List Operand} {us:List Aa},Ak C U xs=some us->us.length=xs.length
 |[],us,h=>by cases h;rfl
 |x::xs,us,h=>by
  unfold Ak at h;split at h;.rename_i u By h1 h2;cases h;simp[Gk h2]
  .cases h
def G0{P:Program}{o:Oper}{c:Call}{b:Builtin}{s:Sem Value}(ho:o.op= .call c)(hc:c.callee= .builtin b)(hs:builtin b c.argTypes o.type (c.args.map λ| .const _=>true|_=>false) (c.args.map a.eval)=(do pure (Next.value (<-s)))){v:Value}
  (hv:s.run P w= .ok v w):(execOp a.eval o).run P w= .ok (.value v) w:=by
 have:execOp a.eval o=(do pure (Next.value (<-s))):=by rw[<-hs];simp only[execOp,ho,resolve,hc];rfl
 rw[this];exact B1 hv
def MQ{o:Oper}{c:Call}{t:TypeId}{isStr:Bool}(ho:o.op= .call c)(hc:c.callee= .builtin .len)(h0:c.argTypes[0]?=some t)(ht:if isStr=true then C.P.underlying t=some .string else∃e,C.P.underlying t=some (.slice e))
  (hr:Bk C γ0 w0 γ Z U h a w) {args:List Aa} (ha:Ak C U c.args.toList=some args):DD C.P γ a o w (.len isStr) args:=by
 intro u hu;simp only[AA] at hu;split at hu
 .rename_i s;have hl:=Gk ha;obtain⟨x,hx⟩:∃x,c.args.toList=[x]:=fD.1 hl.symm;rw[hx] at ha;obtain⟨_,e,h1⟩:=CW hr ha;cases e;obtain⟨r,p1,p2⟩:=Vy (P:=C.P) (w:=w) (ty:=o.type) ht h0 h1 hu;have e:c.args.map a.eval=#[a.eval x]:=by apply Dh;simp[hx]
  exact⟨r,G0 ho hc (s:=Builtin.len_ c.argTypes o.type #[a.eval x]) (by rw[e];rfl) p1,p2⟩
 .cases hu
def Jq{o:Oper}{c:Call}{isMax:Bool}(ho:o.op= .call c)(hc:c.callee= .builtin (if isMax then .max else .min))(hr:Bk C γ0 w0 γ Z U h a w){args:List Aa}(ha:Ak C U c.args.toList=some args):DD C.P γ a o w (.Fe isMax) args:=by
 intro u hu;simp only[AA] at hu;split at hu
 .rename_i k p l q;split at hu
  .rename_i hk;subst hk;cases hu;have hl:=Gk ha;obtain⟨x,y,hx⟩:∃x y,c.args.toList=[x,y]:=by
    cases hq:c.args.toList with
    |nil=>rw[hq] at hl;simp at hl
    |cons x xs=>cases xs with
     |nil=>rw[hq] at hl;simp at hl
     |cons y ys=>cases ys with
      |nil=>exact⟨x,y,rfl⟩
      |cons _ _=>rw[hq] at hl;simp at hl
   rw[hx] at ha;obtain⟨_,_,e,h1,h2⟩:=B9 hr ha;cases e;have e:c.args.map a.eval=#[.int k p,.int k q]:=by apply Dh;simp[hx,BP h1,BP h2]
   cases isMax with
   |true=>exact⟨_,G0 ho hc (s:=Builtin.max_ c.argTypes o.type #[.int k p,.int k q]) (by rw[e];rfl) (by simp[Builtin.max_,Builtin.max2]),rfl⟩
   |false=>exact⟨_,G0 ho hc (s:=Builtin.min_ c.argTypes o.type #[.int k p,.int k q]) (by rw[e];rfl) (by simp[Builtin.min_,Builtin.min2]),rfl⟩
  .cases hu
 .cases hu
end
end Go.Am
end
section
namespace Go.Am
open Go
section
variable{C:CB}{γ0 γ:Gh}{w0 w:World}{Z:Nat->Nat}{U:Av}{h:Ab}{a:Act}{fid:FuncId}{ops:List Oper}
def F3{x:Operand}{d:Nat}{take:Bool}{r:BV}(h:EO C U x d take=some r):∃ws,r= .pure ws:=by
 unfold EO at h;split at h;.cases h;exact⟨_,rfl⟩
 .cases h;exact⟨_,rfl⟩
 .split at h;.cases h;exact⟨_,rfl⟩
  .cases hc:DL _ with
   |none=>rw[hc] at h;cases h
   |some s=>rw[hc] at h;cases h;exact⟨_,rfl⟩
 .cases hc:DL _ with
  |none=>rw[hc] at h;cases h
  |some s=>rw[hc] at h;cases h;exact⟨_,rfl⟩
 .cases h
def MR{t:TypeId}{v:Aa}{d:Nat}{p:Mm}{args:List Aa}{dst:Option Nat}{A5:Bool}{dem:Option (Nat×Aa)}:Kv C fid t v d≠some (.op p args dst A5 dem):=by
 unfold Kv;intro h;split at h;.cases h
 .split at h;.cases h
  .split at h<;>cases h
def PH{t:TypeId}{x:Operand}{d:Nat}{take:Bool}{p:Mm}{args:List Aa}{dst:Option Nat}{A5:Bool}{dem:Option (Nat×Aa)}:Ff C U t x d take≠some (.op p args dst A5 dem):=by
 unfold Ff;intro h;split at h;.cases h
 .split at h;.simp only at h;split at h<;>cases h
  .cases h
 .split at h<;>cases h
 .cases h
def Oq{t:TypeId}{x y:Operand}{p:Mm}{args:List Aa}{dst:Option Nat}{A5:Bool}{dem:Option (Nat×Aa)}:D9 C U t x y≠some (.op p args dst A5 dem):=by
 unfold D9;intro h;split at h;.cases h
 .split at h<;>cases h
 .cases h
def Sd{o:Oper}{p:Mm}{args:List Aa}{dst:Option Nat}{A5:Bool}{dem:Option (Nat×Aa)}(hc:CG C fid ops U o=some (.op p args dst A5 dem))(Ex:p.still=true)(hr:Bk C γ0 w0 γ Z U h a w):
  DD C.P γ a o w p args/\dst=o.dst/\A5=false/\dem=none:=by
 unfold CG at hc
 split at hc
 .split at hc
  .obtain⟨ws,e⟩:=F3 hc;cases e
  .cases hc
 .split at hc
  .obtain⟨ws,e⟩:=F3 hc;cases e
  .cases hc
 .rename_i c x y ho
  split at hc
  .obtain⟨ws,e⟩:=F3 hc;cases e
  .obtain⟨ws,e⟩:=F3 hc;cases e
  .obtain⟨as,e1,e2⟩:=BG hc
   cases e2
   exact⟨PF ho hr e1,rfl,rfl,rfl⟩
 .split at hc
  .split at hc
   .split at hc<;>cases hc
   .exact absurd hc MR
  .cases hc
 .split at hc
  .exact absurd hc MR
  .cases hc
 .rename_i t parts ho
  split at hc
  .rename_i z ps hz hp
   split at hc
   .rename_i hb
    obtain⟨as,e1,e2⟩:=BG hc
    cases e2
    exact⟨Oo hz hp hb (by simp[execOp,ho]) hr e1,rfl,rfl,rfl⟩
   .cases hc
  .cases hc
 .split at hc
  .split at hc
   .split at hc
    .split at hc
     .cases hc;cases Ex
     .cases hq:Ak C U _ with
      |none=>rw[hq] at hc;cases hc
      |some q=>rw[hq] at hc;cases hc;cases Ex
    .cases hc
   .cases hc
  .cases hc
 .split at hc
  .exact absurd hc PH
  .cases hc
 .split at hc
  .exact absurd hc Oq
  .cases hc
 .rename_i x ho
  split at hc
  .cases hc
  .cases hc
  .obtain⟨as,e1,e2⟩:=BG hc
   cases e2
   exact⟨Nw ho hr e1,rfl,rfl,rfl⟩
 .rename_i op t x y k ho
  split at hc
  .rename_i q hq
   obtain⟨as,e1,e2⟩:=BG hc
   cases e2
   exact⟨Sa hq (by simp[execOp,ho]) hr e1,rfl,rfl,rfl⟩
  .cases hc
 .rename_i op t x ho
  obtain⟨as,e1,e2⟩:=BG hc
  cases e2
  exact⟨TC (by simp[execOp,ho]) hr e1,rfl,rfl,rfl⟩
 .rename_i src rS x ho
  split at hc
  .cases hq:B2 C U x with
   |none=>rw[hq] at hc;cases hc
   |some q=>rw[hq] at hc;cases hc
  .split at hc
   .cases hq:B2 C U x with
    |none=>rw[hq] at hc;cases hc
    |some q=>rw[hq] at hc;cases hc
   .obtain⟨as,e1,e2⟩:=BG hc
    cases e2;cases Ex
  .rename_i q qO qP hq
   obtain⟨as,e1,e2⟩:=BG hc
   cases e2
   refine⟨?_,rfl,rfl,rfl⟩
   unfold Lp at hq
   split at hq
   .rename_i hs hd
    cases hq
    exact PG hs hd (by simp[execOp,ho]) hr e1
   .rename_i hs hd
    cases hq
    exact Sb hs hd (by simp[execOp,ho]) hr e1
   .cases hq
   .split at hq
    .cases hq;cases Ex
    .cases hq
   .split at hq
    .cases hq;cases Ex
    .cases hq
   .cases hq
  .cases hc
 .split at hc
  .cases hc
  .cases hc
 .cases hc
 .split at hc
  .split at hc<;>cases hc
  .cases hc
 .split at hc
  .split at hc<;>cases hc
  .cases hc
 .split at hc
  .split at hc<;>cases hc
  .cases hc
 .split at hc
  .split at hc<;>cases hc
  .cases hc
 .split at hc
  .split at hc
   .exact absurd hc E8
   .cases hc
  .cases hc
 .split at hc
  .cases hc
  .exact absurd hc E8
  .cases hc
 .split at hc
  .split at hc<;>first|exact absurd hc E8|cases hc
  .cases hc
 .split at hc
  .exact absurd hc E8
  .cases hc
 .rename_i t x lo hi ho
  split at hc
  .rename_i ht
   obtain⟨as,e1,e2⟩:=BG hc
   cases e2
   exact⟨Kz (isStr:=true) ht (by simp[execOp,ho]) hr e1,rfl,rfl,rfl⟩
  .rename_i e ht
   split at hc
   .rename_i n hn
    split at hc
    .exact absurd hc E8
    .obtain⟨as,e1,e2⟩:=BG hc
     cases e2
     exact⟨Kz (isStr:=false) ⟨e,ht,hn⟩ (by simp[execOp,ho]) hr e1,rfl,rfl,rfl⟩
   .cases hc
  .cases hc
 .rename_i t x f ho
  split at hc
  .rename_i off sh d hf hd
   split at hc
   .cases hc
   .cases hc
   .obtain⟨as,e1,e2⟩:=BG hc
    cases e2
    exact⟨KZ hf (by simp[execOp,ho]) hr e1,hd.symm,rfl,rfl⟩
  .cases hc
 .rename_i t x f ho
  split at hc
  .rename_i off sh hf
   obtain⟨as,e1,e2⟩:=BG hc
   cases e2
   exact⟨On hf (by simp[execOp,ho]) hr e1,rfl,rfl,rfl⟩
  .cases hc
 .rename_i t x i ho
  split at hc
  .rename_i e ht
   split at hc
   .rename_i n hn
    obtain⟨as,e1,e2⟩:=BG hc
    cases e2
    exact⟨LC ht hn (by simp[execOp,ho]) hr e1,rfl,rfl,rfl⟩
   .cases hc
  .rename_i len e ht
   split at hc
   .rename_i n hn
    split at hc
    .cases hc
    .obtain⟨as,e1,e2⟩:=BG hc
     cases e2
     exact⟨Mu ht hn (by simp[execOp,ho]) hr e1,rfl,rfl,rfl⟩
   .cases hc
  .cases hc
 .rename_i t x i ho
  split at hc
  .rename_i ht
   obtain⟨as,e1,e2⟩:=BG hc
   cases e2
   exact⟨K0 ht (by simp[execOp,ho]) hr e1,rfl,rfl,rfl⟩
  .rename_i len e ht
   split at hc
   .rename_i n sh hn Ph
    obtain⟨as,e1,e2⟩:=BG hc
    cases e2
    exact⟨K1 ht hn Ph (by simp[execOp,ho]) hr e1,rfl,rfl,rfl⟩
   .cases hc
  .cases hc
 .rename_i x i ho
  obtain⟨as,e1,e2⟩:=BG hc
  cases e2
  exact⟨Sc (by simp[execOp,ho]) hr e1,rfl,rfl,rfl⟩
 .rename_i c ho
  unfold IC at hc
  split at hc
  .rename_i hcl
   split at hc
   .rename_i t h0
    split at hc
    .rename_i ht
     obtain⟨as,e1,e2⟩:=BG hc
     cases e2
     exact⟨MQ (isStr:=true) ho hcl h0 ht hr e1,rfl,rfl,rfl⟩
    .rename_i e ht
     obtain⟨as,e1,e2⟩:=BG hc
     cases e2
     exact⟨MQ (isStr:=false) ho hcl h0 ⟨e,ht⟩ hr e1,rfl,rfl,rfl⟩
    .cases hc
   .cases hc
  .split at hc
   .split at hc
    all_goals first
     |(cases hc;done)
     | (split at hc
        . split at hc
          . split at hc
            . split at hc
              . split at hc
                . cases hc
                . split at hc
                  . cases hc
                  . cases hc; cases Ex
              . split at hc <;> cases hc
            . cases hc
          . cases hc
        . cases hc)
   .cases hc
  .split at hc
   .split at hc
    all_goals first
     |(cases hc;done)
     | (split at hc
        . exact absurd hc E8
        . cases hc)
   .cases hc
  .split at hc
   .split at hc
    .split at hc
     .exact absurd hc E8
     .cases hc
    .cases hc
   .cases hc
  .rename_i hcl
   split at hc
   .obtain⟨as,e1,e2⟩:=BG hc
    cases e2
    exact⟨Jq (isMax:=true) ho hcl hr e1,rfl,rfl,rfl⟩
   .cases hc
  .rename_i hcl
   split at hc
   .obtain⟨as,e1,e2⟩:=BG hc
    cases e2
    exact⟨Jq (isMax:=false) ho hcl hr e1,rfl,rfl,rfl⟩
   .cases hc
  .split at hc
   .split at hc
    .split at hc
     .exact absurd hc E8
     .cases hc
    .cases hc
   split at hc
   .cases hq:Ak C U c.args.toList with
    |none=>rw[hq] at hc;cases hc
    |some q=>
     rw[hq] at hc
     simp only[A3,AG] at hc
     split at hc<;>cases hc
   .cases hc
  .split at hc<;>cases hc
  .cases hc
 .cases hc
end
end Go.Am
end
