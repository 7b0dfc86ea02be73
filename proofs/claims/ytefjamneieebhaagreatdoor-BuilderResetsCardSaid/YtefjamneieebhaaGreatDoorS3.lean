/- Lemmas -/
import Derived.Test.YtefjamneieebhaaGreatDoorS2
import Derived.Laws.Slices
set_option linter.unusedVariables false
set_option linter.unusedSimpArgs false
section
namespace Go.Am
open Go
section
variable{P:Program}{γ:Gh}{w:World}
theorem QD{a:Bool}{v:Value}(h:BE γ (.bool a) v):v= .bool a:=h
theorem D2{k:IntKind}{a:Int}{v:Value}(h:BE γ (.int k a) v):v= .int k a:=h
theorem MR{a:Ap}{v:Value}(h:BE γ (.str a) v):v= .string ⟨⟨a⟩⟩:=h
theorem A9.fc{us:List Value}(h:A9 γ [] us):us=[]:=h
theorem A9.KV{a:Aa}{l:List Aa}{us:List Value}(h:A9 γ (a::l) us):∃u Dj,us=u::Dj/\BE γ a u/\A9 γ l Dj:=h
theorem A9.one{a:Aa}{us:List Value}(h:A9 γ [a] us):∃u,us=[u]/\BE γ a u:=by obtain⟨u,Dj,rfl,h1,h2⟩:=h;rw[h2.fc];exact⟨u,rfl,h1⟩
theorem A9.Z6{a b:Aa}{us:List Value}(h:A9 γ [a,b] us):∃u v,us=[u,v]/\BE γ a u/\BE γ b v:=by obtain⟨u,Dj,rfl,h1,h2⟩:=h;obtain⟨v,rfl,h3⟩:=h2.one;exact⟨u,v,rfl,h1,h3⟩
theorem A9.SF{a b c:Aa}{us:List Value}(h:A9 γ [a,b,c] us):∃u v x,us=[u,v,x]/\BE γ a u/\BE γ b v/\BE γ c x:=by obtain⟨u,Dj,rfl,h1,h2⟩:=h;obtain⟨v,x,rfl,h3,h4⟩:=h2.Z6;exact⟨u,v,x,rfl,h1,h3,h4⟩
def Value.I8:Value->Bool
 | .bool _| .pointer _| .slice _ _ _| .func _ _ _| .nilFunc| .map _=>true
 |_=>false
theorem RL{op:BinOp}{neg:Bool}(MH:(op= .eql/\neg=false)\/(op= .neq/\neg=true))(t:TypeId)(ox oy:Operand){x y:Value}(hx:Value.I8 x=true)(hy:Value.I8 y=true){e:Bool}
  (he:(Op.equal t x y).run P w= .ok e w):(do eqGuard op t ox oy x y;binOp op t x y:Sem Value).run P w= .ok (.bool (e != neg)) w:=by
 have hg:eqGuard op t ox oy x y=pure ():=by rcases MH with⟨rfl,_⟩|⟨rfl,_⟩<;>cases x<;>simp[Value.I8] at hx<;>rfl
 rw[hg];rcases MH with⟨rfl,rfl⟩|⟨rfl,rfl⟩
 .have hb:binOp .eql t x y=(do pure (.bool (<-Op.equal t x y))):=by cases x<;>simp[Value.I8] at hx<;>cases y<;>simp[Value.I8] at hy<;>rfl
  simp[hb,he]
 .have hb:binOp .neq t x y=(do pure (.bool (!(<-Op.equal t x y)))):=by cases x<;>simp[Value.I8] at hx<;>cases y<;>simp[Value.I8] at hy<;>rfl
  simp[hb,he]
theorem Z7{op:BinOp}{neg:Bool}(MH:(op= .eql/\neg=false)\/(op= .neq/\neg=true))(t:TypeId)(ox oy:Operand)(ht:P.underlying t=some .bool)(a b:Bool):
  (do eqGuard op t ox oy (.bool a) (.bool b);binOp op t (.bool a) (.bool b):Sem Value).run P w= .ok (.bool ((a==b) != neg)) w:=
 RL MH t ox oy rfl rfl (run_equalIn_bool' w 9999 t a b ht)
theorem Tl{d:Nat}{t e:TypeId}(ht:P.underlying t=some (.pointer e))(hz:∃n,BP P e=some (n+1)){a b:Aa}{x y:Value}(hx:BE γ a x)(hy:BE γ b y){r:Bool}(h:kQ a b=some r):
  (Op.equalIn (d+1) t x y).run P w= .ok r w/\Value.I8 x=true/\Value.I8 y=true:=by
 obtain⟨n,hn⟩:=hz;unfold kQ at h;split at h
 .rename_i q;cases h;rw[show x= .pointer none from hx];have:∃p,y= .pointer p/\p.isNone=q.isNone:=by
   cases q with
   |none=>exact⟨none,hy,rfl⟩
   |some p=>obtain⟨i,o⟩:=p;obtain⟨b,_,rfl⟩:=hy;exact⟨_,rfl,rfl⟩
  obtain⟨p,rfl,hp⟩:=this;exact⟨by simp[Op.equalIn,run_underlying ht,hp],rfl,rfl⟩
 .rename_i p;cases h;obtain⟨i,o⟩:=p;obtain⟨b,_,rfl⟩:=hx;rw[show y= .pointer none from hy];exact⟨by simp[Op.equalIn,run_underlying ht],rfl,rfl⟩
 .rename_i p q;split at h;·rename_i he;cases h;subst he;obtain⟨i,o⟩:=p;obtain⟨b,hb,rfl⟩:=hx;obtain⟨b',Qq,rfl⟩:=hy;rw[hb] at Qq;cases Qq;exact⟨by simp[Op.equalIn,run_underlying ht,Dp hn,sameAddr],rfl,rfl⟩
  .cases h
 .cases h;rw[show x= .pointer none from hx];obtain⟨b,o,rfl,_⟩:=hy;exact⟨by simp[Op.equalIn,run_underlying ht],rfl,rfl⟩
 .cases h;rw[show y= .pointer none from hy];obtain⟨b,o,rfl,_⟩:=hx;exact⟨by simp[Op.equalIn,run_underlying ht],rfl,rfl⟩
 .cases h
theorem FY{d:Nat}{t e:TypeId}(ht:P.underlying t=some (.slice e)){p q:Option Addr}{n c m k:Nat}(h:p=none\/q=none):
  (Op.equalIn (d+1) t (.slice p n c) (.slice q m k)).run P w= .ok (p.isNone&&q.isNone) w:=by
 cases p<;>cases q<;>simp at h<;>simp[Op.equalIn,run_underlying ht]
theorem KW{d:Nat}{t:TypeId}{a b:Array TypeId}{c:Bool}(ht:P.underlying t=some (.func a b c)){f:Fn}{x y:Array Value}:
  (Op.equalIn (d+1) t .nilFunc .nilFunc).run P w= .ok true w/\(Op.equalIn (d+1) t .nilFunc (.func f x y)).run P w= .ok false w/\(Op.equalIn (d+1) t (.func f x y) .nilFunc).run P w= .ok false w:=by
 refine⟨?_,?_,?_⟩<;>simp[Op.equalIn,run_underlying ht]
theorem Kp{d:Nat}{t k e:TypeId}(ht:P.underlying t=some (.map k e)){p q:Option Nat}(h:p=none\/q=none):
  (Op.equalIn (d+1) t (.map p) (.map q)).run P w= .ok (p.isNone&&q.isNone) w:=by
 cases p<;>cases q<;>simp at h<;>simp[Op.equalIn,run_underlying ht]
theorem Tm{d:Nat}{t:TypeId}{k:NK}(ht:match k with| .sl=>∃e,P.underlying t=some (.slice e)| .fn=>∃a b c,P.underlying t=some (.func a b c)| .mp=>∃a b,P.underlying t=some (.map a b))
  {a b:Aa} {x y:Value} (hx:BE γ a x) (hy:BE γ b y) {r:Bool} (h:kR k a b=some r):
  (Op.equalIn (d+1) t x y).run P w= .ok r w/\Value.I8 x=true/\Value.I8 y=true:=by
 unfold kR at h;split at h;case h_1=>obtain⟨e,ht⟩:=ht;cases h;rw[show x= .slice none 0 0 from hx,show y= .slice none 0 0 from hy];exact⟨FY ht (.inl rfl),rfl,rfl⟩
 case h_2=>obtain⟨e,ht⟩:=ht;cases h;rw[show x= .slice none 0 0 from hx];obtain⟨_,_,rfl,_⟩:=hy;exact⟨FY ht (.inl rfl),rfl,rfl⟩
 case h_3=>obtain⟨e,ht⟩:=ht;cases h;rw[show y= .slice none 0 0 from hy];obtain⟨_,_,rfl,_⟩:=hx;exact⟨FY ht (.inr rfl),rfl,rfl⟩
 case h_4=>obtain⟨e,ht⟩:=ht;cases h;rw[show x= .slice none 0 0 from hx];obtain⟨_,_,_,rfl,_⟩:=hy;exact⟨FY ht (.inl rfl),rfl,rfl⟩
 case h_5=>obtain⟨e,ht⟩:=ht;cases h;rw[show y= .slice none 0 0 from hy];obtain⟨_,_,_,rfl,_⟩:=hx;exact⟨FY ht (.inr rfl),rfl,rfl⟩
 case h_6=>obtain⟨_,_,_,ht⟩:=ht;cases h;rw[show x= .nilFunc from hx,show y= .nilFunc from hy];exact⟨(KW ht (f:= .func 0) (x:=#[]) (y:=#[])).1,rfl,rfl⟩
 case h_7=>obtain⟨_,_,_,ht⟩:=ht;cases h;rw[show x= .nilFunc from hx];obtain⟨_,_,rfl,_⟩:=hy;exact⟨(KW ht).2.1,rfl,rfl⟩
 case h_8=>obtain⟨_,_,_,ht⟩:=ht;cases h;rw[show y= .nilFunc from hy];obtain⟨_,_,rfl,_⟩:=hx;exact⟨(KW ht).2.2,rfl,rfl⟩
 case h_9=>
  rename_i q;obtain⟨_,_,ht⟩:=ht;cases h;rw[show x= .map none from hx];cases q with
  |none=>rw[show y= .map none from hy];exact⟨Kp ht (.inl rfl),rfl,rfl⟩
  |some id=>obtain⟨b,_,rfl⟩:=hy;exact⟨Kp ht (.inl rfl),rfl,rfl⟩
 case h_10=>obtain⟨_,_,ht⟩:=ht;cases h;rw[show y= .map none from hy];obtain⟨b,_,rfl⟩:=hx;exact⟨Kp ht (.inr rfl),rfl,rfl⟩
 .cases h
theorem qN{op:BinOp}{args:List Aa}{u:Aa}(h:Aw (.int op) args=some u):∃k a l b,args=[.int k a,.int l b]/\kP op k a l b=some u:=by
 simp only[Aw] at h;split at h;·exact⟨_,_,_,_,rfl,h⟩
 .cases h
theorem qO{op:BinOp}{args:List Aa}{u:Aa}(h:Aw (.str op) args=some u):∃a b,args=[.str a,.str b]/\ZU op a b=some u:=by
 simp only[Aw] at h;split at h;·exact⟨_,_,rfl,h⟩
 .cases h
theorem Z8{op:BinOp}{t:TypeId}{p:Wg}(hp:OF P op t=some p)(ox oy:Operand){args:List Aa}{x y:Value}(ha:A9 γ args [x,y]){u:Aa}(h:Aw p args=some u):
  ∃v,(do eqGuard op t ox oy x y;binOp op t x y:Sem Value).run P w= .ok v w/\BE γ u v:=by
 unfold OF at hp;split at hp;·cases hp;obtain⟨k,a,l,b,rfl,h⟩:=qN h;obtain⟨_,_,e,hx,hy⟩:=ha.Z6;cases e;rw[D2 hx,D2 hy];exact ZZ t ox oy h
 .cases hp;obtain⟨a,b,rfl,h⟩:=qO h;obtain⟨_,_,e,hx,hy⟩:=ha.Z6;cases e;rw[MR hx,MR hy];exact Z0 t ox oy h
 .rename_i d h1 h2 hu;obtain⟨neg,MH,hp'⟩:∃neg,((op= .eql/\neg=false)\/(op= .neq/\neg=true))/\RE P t neg d=some p:=by cases op<;>first|cases hp;done|exact⟨false,.inl ⟨rfl,rfl⟩,hp⟩|exact⟨true,.inr ⟨rfl,rfl⟩,hp⟩
  clear h1 h2 hp;have hp:=hp';clear hp';unfold RE at hp;split at hp
  .cases hp;simp only[Aw] at h;split at h;·obtain⟨_,_,e,hx,hy⟩:=ha.Z6;cases e;cases h;rw[QD hx,QD hy];exact⟨_,Z7 MH t ox oy hu _ _,rfl⟩
   .cases h
  .split at hp
   .rename_i hg;cases hk:NU P 20 t with
    |none=>rw[hk] at hp;cases hp
    |some ks=>
     rw[hk] at hp;cases hp;simp only[Aw] at h;split at h;·obtain⟨_,_,e,hx,hy⟩:=ha.Z6;cases e;exact Z5 MH hg hk ⟨_,hu⟩ hx hy h
     .cases h
   .cases hp
  .split at hp;·cases hp
   .rename_i e hz;cases hp;simp only[Aw] at h;split at h
    .rename_i a b;obtain⟨_,_,e,hx,hy⟩:=ha.Z6;cases e;cases hq:kQ a b with
     |none=>rw[hq] at h;cases h
     |some r=>rw[hq] at h;cases h;obtain⟨p1,p2,p3⟩:=Tl (w:=w) (d:=9999) hu (by cases ZF:BP P e with|none=>rw[ZF] at hz;exact absurd rfl hz|some n=>cases n with|zero=>rw[ZF] at hz;exact absurd rfl hz|succ n=>exact⟨n,rfl⟩) hx hy hq;exact⟨_,RL MH t ox oy p2 p3 p1,rfl⟩
    .cases h
  all_goals first
   |cases hp;done
   | (cases hp
      simp only [Aw] at h
      split at h
      . rename_i a b
        obtain ⟨_, _, e, hx, hy⟩ := ha.Z6
        cases e
        cases hq : kR _ a b with
        | none => rw [hq] at h; cases h
        | some r =>
          rw [hq] at h; cases h
          obtain ⟨p1, p2, p3⟩ := Tm (w := w) (P := P) (t := t) (d := 9999) (by first | exact ⟨_, hu⟩ | exact ⟨_, _, hu⟩ | exact ⟨_, _, _, hu⟩) hx hy hq
          exact ⟨_, RL MH t ox oy p2 p3 p1, rfl⟩
      . cases h)
 .cases hp
end
end Go.Am
end
section
namespace Go.Am
open Go
section
variable{P:Program}{γ:Gh}{w:World}
theorem yh{op:UnOp}{a u:Aa}{x:Value}(hx:BE γ a x)(h:xm op a=some u):∃v,(Op.unary op x).run P w= .ok v w/\BE γ u v:=by
 unfold xm at h;split at h;·cases h;rw[QD hx];exact⟨_,rfl,rfl⟩
 .cases h;rw[D2 hx];exact⟨_,rfl,rfl⟩
 .rename_i k n;rw[D2 hx];unfold sx at h;cases hs:OD (Op.unary .xor (.int k n)) with
  |none=>rw[hs] at h;cases h
  |some v=>
   rw[hs] at h;have e1:=UA hs;simp only[Ct] at h;split at h;·cases h;exact⟨_,by rw[e1];rfl,rfl⟩
   .cases h
 .cases h
theorem Yc{src dst:TypeId}{k l k':IntKind}{n:Int}(hs:P.underlying src=some (.int l))(hd:P.underlying dst=some (.int k)):(convert src dst (.int k' n)).run P w= .ok (.int k (k.wrap n)) w:=by simp[convert,run_underlying hs,run_underlying hd,Conv.intToInt]
theorem Yd{src dst:TypeId}{l k':IntKind}{n:Int}(hs:P.underlying src=some (.int l))(hd:P.underlying dst=some .string):(convert src dst (.int k' n)).run P w= .ok (.string (Utf8.encode n)) w:=by simp[convert,run_underlying hs,run_underlying hd,Conv.intToString]
theorem qP{t:TypeId}{f off:Nat}{sh:Option Nat}(hf:HD P t f=some (off,sh)){cs:List Aa}{x:Value}(hx:BE γ (.agg cs) x){u:Aa}(h:EN cs off sh=some u):∃v,(Instr.field t x f).run P w= .ok v w/\BE γ u v:=by
 unfold HD at hf;split at hf
 .rename_i fs hu;split at hf
  .rename_i fd lB;split at hf;·rename_i n sh' h1 h2;cases hf;obtain⟨us,rfl,hr,h1c⟩:=hx;obtain⟨v,p,q⟩:=Z3 (w:=w) h2 hr h1c h;exact⟨v,by simp[Instr.field,run_underlying hu,lB,asAgg,p],q⟩
   .cases hf
  .cases hf
 .cases hf
theorem PT{i:Int}{len j:Nat}(h:Ma i len=some j):0<=i/\i<len/\i.toNat=j:=by
 unfold Ma at h;split at h;·rename_i hc;cases h;exact⟨hc.1,hc.2,rfl⟩
 .cases h
theorem Wu{t e:TypeId}{len n:Nat}{sh:Option Nat}(ht:P.underlying t=some (.array len e))(hn:BP P e=some n)(eF:EM P e=some sh){cs:List Aa}{x:Value}(hx:BE γ (.agg cs) x){k:IntKind}{i:Int}{j:Nat}
  (hi:Ma i len=some j) {u:Aa} (h:EN cs (j*n) sh=some u):∃v,(Instr.index t x (.int k i)).run P w= .ok v w/\BE γ u v:=by
 obtain⟨us,rfl,hr,h1c⟩:=hx;obtain⟨p1,p2,p3⟩:=PT hi;obtain⟨v,p,q⟩:=Z3 (w:=w) eF hr h1c h;exact⟨v,by simp[Instr.index,asIntOf,run_underlying ht,p1,p2,Dp hn,p3,p],q⟩
theorem Wv{t:TypeId}(ht:P.underlying t=some .string){s:Ap}{k:IntKind}{i:Int}{b:UInt8}(h0:0<=i)(h:s[i.toNat]?=some b):
  (Instr.index t (.string ⟨⟨s⟩⟩) (.int k i)).run P w= .ok (.int .u8 b.toNat) w:=by
 obtain⟨hlt,hb⟩:=Ah.1 h;have e:(⟨⟨s⟩⟩:ByteArray)[i.toNat]?=some b:=by rw[ByteArray.getElem?_lt' _ _ (show i.toNat<(⟨⟨s⟩⟩:ByteArray).size from hlt),<-hb];rfl
 simp[Instr.index,asIntOf,run_underlying ht,h0,e]
theorem lC{p u:Aa}{x:Value}{n:Nat}(hx:BE γ p x)(h:WZ p n=some u):∃a,x= .pointer (some a)/\BE γ u (.pointer (some (a.add n))):=by
 unfold WZ at h;split at h;·rename_i cs;cases h;obtain⟨b,o,rfl,hm⟩:=hx;refine⟨_,rfl,b,o+n,?_,hm.drop n⟩;unfold Addr.add;split<;>simp_all
 .rename_i id o;cases h;obtain⟨b,hb,rfl⟩:=hx;refine⟨_,rfl,b,hb,?_⟩;unfold Addr.add;split<;>simp_all
 .cases h
theorem Z9{t:TypeId}{f off:Nat}{sh:Option Nat}(hf:HD P t f=some (off,sh)){p u:Aa}{x:Value}(hx:BE γ p x)(h:WZ p off=some u):∃v,(Instr.fieldAt t x f).run P w= .ok v w/\BE γ u v:=by
 obtain⟨a,rfl,hu⟩:=lC hx h;refine⟨_,?_,hu⟩;unfold HD at hf;split at hf
 .rename_i fs lA;split at hf
  .rename_i fd lB;split at hf;·rename_i n sh' h1 h2;cases hf;simp[Instr.fieldAt,run_underlying lA,lB,Instr.sureAddr,fieldPlace,Dp h1]
   .cases hf
  .cases hf
 .cases hf
theorem fB{t e:TypeId}{n:Nat}(ht:P.underlying t=some (.slice e))(hn:BP P e=some n){s u:Aa}{x:Value}(hx:BE γ s x){k:IntKind}{i:Int}(h:elemOf n s i=some u):
  ∃v,(Instr.indexAt t x (.int k i)).run P w= .ok v w/\BE γ u v:=by
 have FH:P.underlying t=some (.slice (P.elem t)):=by simp[Program.elem,ht]
 have he:P.elem t=e:=by simp[Program.elem,ht]
 unfold elemOf at h;split at h
 .rename_i z Au;split at h
  .rename_i hz;subst hz;split at h
   .rename_i h0;cases hr:Au[i.toNat]? with
    |none=>rw[hr] at h;cases h
    |some row=>
     rw[hr] at h;cases h;obtain⟨ad,cap,rfl,hc,hsp,hm⟩:=hx;obtain⟨hl,hm'⟩:=hm.get hr;have hlt:i<Au.length:=by have:=(Ah.1 hr).1;omega
     have fC:=MN hsp hc (by omega);generalize ad.block=b at*;generalize ad.off=o at*;subst fC;refine⟨.pointer (some ((⟨b,o,none⟩:Addr).add (i.toNat*z))),by rw[run_indexAt_slice w t _ _ _ _ _ FH,if_pos ⟨h0,hlt⟩,he,Dp hn];rfl,b,o+i.toNat*z,?_,hm'⟩;unfold Addr.add;split<;>simp_all
   .cases h
  .cases h
 .rename_i id off len z;split at h
  .rename_i hz;subst hz;cases hj:Ma i len with
   |none=>rw[hj] at h;cases h
   |some j=>rw[hj] at h;cases h;obtain⟨p1,p2,p3⟩:=PT hj;subst p3;obtain⟨b,cap,hb,rfl,hc,hz⟩:=hx;refine⟨.pointer (some ((⟨b,off,none⟩:Addr).add (i.toNat*z))),by rw[run_indexAt_slice w t _ _ _ _ _ FH,if_pos ⟨p1,p2⟩,he,Dp hn];rfl,b,hb,?_⟩;unfold Addr.add;split<;>simp_all
  .cases h
 .cases h
theorem qQ{t e:TypeId}{len n:Nat}(ht:P.underlying t=some (.array len e))(hn:BP P e=some n){p u:Aa}{x:Value}(hx:BE γ p x){k:IntKind}{i:Int}{j:Nat}(hj:Ma i len=some j)(h:WZ p (j*n)=some u):
  ∃v,(Instr.indexAt t x (.int k i)).run P w= .ok v w/\BE γ u v:=by
 have FH:P.underlying t=some (.array (P.arrayLen t) (P.elem t)):=by simp[Program.elem,Program.arrayLen,ht]
 have he:P.elem t=e:=by simp[Program.elem,ht]
 have hl:P.arrayLen t=len:=by simp[Program.arrayLen,ht]
 obtain⟨a,rfl,hu⟩:=lC hx h;obtain⟨p1,p2,p3⟩:=PT hj;subst p3;exact⟨_,by rw[run_indexAt_array w t _ _ _ FH,hl,if_pos ⟨p1,p2⟩,he,Dp hn];rfl,hu⟩
theorem fg{t ty:TypeId}{isStr:Bool}(ht:if isStr=true then P.underlying t=some .string else∃e,P.underlying t=some (.slice e)){ts:Array TypeId}(ZG:ts[0]?=some t){s u:Aa}{x:Value}(hx:BE γ s x)(h:lenOf isStr s=some u):
  ∃v,(Builtin.len_ ts ty #[x]).run P w= .ok v w/\BE γ u v:=by
 cases isStr with
 |true=>
  replace ht:P.underlying t=some .string:=ht;unfold lenOf at h;split at h<;>first|cases h;done|skip
  simp only[BK] at h;cases h;rw[MR hx];refine⟨_,by simp[Builtin.len_,ZG,run_underlying ht];rfl,rfl⟩
 |false=>
  obtain⟨e,ht⟩:∃e,P.underlying t=some (.slice e):=ht;unfold lenOf at h;split at h;·cases h;obtain⟨ad,cap,rfl,_⟩:=hx;exact⟨_,by simp[Builtin.len_,ZG,run_underlying ht];rfl,rfl⟩
  .cases h;obtain⟨b,cap,_,rfl,_⟩:=hx;exact⟨_,by simp[Builtin.len_,ZG,run_underlying ht];rfl,rfl⟩
  .cases h;rw[show x= .slice none 0 0 from hx];exact⟨_,by simp[Builtin.len_,ZG,run_underlying ht];rfl,rfl⟩
  .cases h
  .cases h
theorem fh{vs:List Aa}{x:Value}(hx:BE γ (.tuple vs) x){i:Nat}{u:Aa}(h:vs[i]?=some u):∃v,(Instr.extract x i).run P w= .ok v w/\BE γ u v:=by
 obtain⟨us,rfl,hr⟩:=hx;obtain⟨v,hv,q⟩:=hr.get h;exact⟨v,by
  have:us[i]?=some v:=by simpa using hv
  simp[Instr.extract,this],q⟩
end
end Go.Am
end
section
namespace Go.Am
open Go
section
variable{P:Program}{γ:Gh}{w:World}
theorem MS{n:Int}{top j:Nat}(h:EJ n top=some j):0<=n/\n<=top/\n.toNat=j:=by
 unfold EJ at h;split at h;·rename_i hc;cases h;exact⟨hc.1,hc.2,rfl⟩
 .cases h
theorem JA{lo hi:Option Value}{as:List Aa}{len cap l h:Nat}{isSlice:Bool}(hb:DI lo.isSome hi.isSome len as=some (l,h))(hr:A9 γ as (lo.toList++hi.toList))(hc:len<=cap):
  (Instr.sliceBounds isSlice len cap lo hi none).run P w= .ok (l,h,cap) w/\l<=h/\h<=len:=by
 cases lo<;>cases hi<;>simp only[Option.isSome,DI] at hb
 .split at hb;·cases hb;exact⟨by simp[Instr.sliceBounds],AR _,Ac _⟩
  .cases hb
 .rename_i hv;split at hb
  .rename_i k h';cases hh:EJ h' len with
   |none=>rw[hh] at hb;cases hb
   |some j=>
    rw[hh] at hb;cases hb;obtain⟨p1,p2,p3⟩:=MS hh;obtain⟨_,e,hx⟩:=hr.one;cases e;rw[D2 hx];refine⟨?_,AR _,by omega⟩;have:h'<=(cap:Int):=by omega
    simp[Instr.sliceBounds,run_sliceBound,p1,this,p3]
  .cases hb
 .rename_i lv;split at hb
  .rename_i k l';cases hh:EJ l' len with
   |none=>rw[hh] at hb;cases hb
   |some j=>rw[hh] at hb;cases hb;obtain⟨p1,p2,p3⟩:=MS hh;obtain⟨_,e,hx⟩:=hr.one;cases e;rw[D2 hx];refine⟨?_,by omega,Ac _⟩;simp[Instr.sliceBounds,run_sliceBound,p1,p2,p3]
  .cases hb
 .rename_i lv hv;split at hb
  .rename_i k l' k' h';cases hh:EJ h' len with
   |none=>rw[hh] at hb;cases hb
   |some j=>
    rw[hh] at hb;simp only[Ct] at hb;cases hh':EJ l' j with
    |none=>rw[hh'] at hb;cases hb
    |some i=>
     rw[hh'] at hb;cases hb;obtain⟨p1,p2,p3⟩:=MS hh;obtain⟨q1,q2,q3⟩:=MS hh';obtain⟨_,_,e,hx,hy⟩:=hr.Z6;cases e;rw[D2 hx,D2 hy];refine⟨?_,by omega,by omega⟩;have:h'<=(cap:Int):=by omega
     simp[Instr.sliceBounds,run_sliceBound,p1,this,q1,p3,q3,q2]
  .cases hb
theorem EP.slice{Au:List (List Aa)}{z b o:Nat}(h:EP γ Au z b o)(l k:Nat):EP γ ((Au.take k).drop l) z b (o+l*z):=by
 refine EP.Gg λi r hi=>?_;rw[Cz,Cf] at hi;split at hi;·obtain⟨p,q⟩:=h.get hi;exact⟨p,by rw[show o+l*z+i*z=o+(l+i)*z by rw[BB];omega];exact q⟩
 .cases hi
theorem fj{t:TypeId}{isStr:Bool}{size:Nat}(ht:if isStr=true then P.underlying t=some .string else∃e,P.underlying t=some (.slice e)/\BP P e=some size){s u:Aa}{x:Value}(hx:BE γ s x){as:List Aa}{lo hi:Option Value}
  (hr:A9 γ as (lo.toList++hi.toList)) (h:I5 size isStr lo.isSome hi.isSome s as=some u):
  ∃v,(Instr.sliceAt t x lo hi none).run P w= .ok v w/\BE γ u v:=by
 unfold I5 at h;split at h
 .split at h
  .rename_i s O8;subst O8;replace ht:P.underlying t=some .string:=ht;cases hb:DI lo.isSome hi.isSome s.length as with
   |none=>rw[hb] at h;cases h
   |some lh=>
    obtain⟨l,k⟩:=lh;rw[hb] at h;cases h;obtain⟨p1,p2,p3⟩:=JA (P:=P) (w:=w) (isSlice:=false) hb hr (Ac _);rw[MR hx,run_sliceAt_string w t _ _ _ _ ht];refine⟨.string ((⟨⟨s⟩⟩:ByteArray).extract l k),?_,?_⟩;·have e:(⟨⟨s⟩⟩:ByteArray).size=s.length:=rfl;simp only[Instr.slice,Sem.run_bind,run_underlying ht,Result.andThen_ok];simp only[e,p1,Option.isSome,C1,D9,Sem.run_bind,Sem.run_pure,Result.andThen_ok]
    .show Value.string _=Value.string _;congr 1
     apply ByteArray.ext;apply Jh;simp[ByteArray.data_extract,MK,List.drop_take]
  .cases h
 .rename_i z Au;split at h
  .rename_i hc;obtain⟨rfl,rfl⟩:=hc;obtain⟨e,ht,hn⟩:∃e,P.underlying t=some (.slice e)/\BP P e=some z:=ht;have FH:P.underlying t=some (.slice (P.elem t)):=by simp[Program.elem,ht]
   have he:P.elem t=e:=by simp[Program.elem,ht]
   obtain⟨ad,cap,rfl,hc,hsp,hm⟩:=hx;cases hb:DI lo.isSome hi.isSome Au.length as with
   |none=>rw[hb] at h;cases h
   |some lh=>
    obtain⟨l,k⟩:=lh;rw[hb] at h;cases h;obtain⟨p1,p2,p3⟩:=JA (P:=P) (w:=w) (isSlice:=true) hb hr hc;rw[run_sliceAt_slice w t _ _ _ _ FH,run_slice_any w t _ _ _ FH,p1,he,Result.andThen_ok,Dp hn];refine⟨_,rfl,?_⟩;show BE γ (.sl z ((Au.take k).drop l)) (.slice (if cap=l then some ad else Option.map (λq:Addr=>q.add (l*z)) (some ad)) (k-l) (cap-l));have hlen:((Au.take k).drop l).length=k-l:=by simp;omega
    by_cases hcl:cap=l;·have:(Au.take k).drop l=[]:=EU (by omega);rw[this];simp only[hcl,BK];exact⟨ad,l-l,by simp;omega,by simp,.inr (by omega),trivial⟩
    .rw[if_neg hcl];have fC:ad=⟨ad.block,ad.off,none⟩:=by
      rcases hsp with hsp|hsp
      .cases ad;simp_all
      .omega
     generalize ad.block=b at*;generalize ad.off=o at*;subst fC;refine⟨⟨b,o+l*z,none⟩,cap-l,?_,by omega,.inl rfl,hm.slice l k⟩;rw[hlen];simp only[BR];unfold Addr.add;split<;>simp_all
  .cases h
 .rename_i id off n z;split at h
  .rename_i hc;obtain⟨rfl,rfl⟩:=hc;obtain⟨e,ht,hn⟩:∃e,P.underlying t=some (.slice e)/\BP P e=some z:=ht;have FH:P.underlying t=some (.slice (P.elem t)):=by simp[Program.elem,ht]
   have he:P.elem t=e:=by simp[Program.elem,ht]
   obtain⟨b,cap,fk,rfl,hc,hz,hsz⟩:=hx;cases hb:DI lo.isSome hi.isSome n as with
   |none=>rw[hb] at h;cases h
   |some lh=>
    obtain⟨l,k⟩:=lh;rw[hb] at h;simp only[Ct] at h;split at h
    .rename_i fD;cases h;obtain⟨p1,p2,p3⟩:=JA (P:=P) (w:=w) (isSlice:=true) hb hr hc;rw[run_sliceAt_slice w t _ _ _ _ FH,run_slice_any w t _ _ _ FH,p1,he,Result.andThen_ok,Dp hn];refine⟨_,rfl,b,cap-l,fk,?_,by omega,⟨hz.1,Bt (Nat.sub_le _ _) hz.2⟩,?_⟩;·show Value.slice (if cap=l then some ⟨b,off,none⟩ else Option.map (λq:Addr=>q.add (l*z)) (some ⟨b,off,none⟩)) (k-l) (cap-l)=_;rw[if_neg (by omega)];simp only[BR];unfold Addr.add;split<;>simp_all
     .rw[hsz,Nat.add_assoc,<-BB,Nat.add_sub_cancel' (by omega)]
    .rename_i fD;cases h;obtain⟨p1,p2,p3⟩:=JA (P:=P) (w:=w) (isSlice:=true) hb hr hc;rw[run_sliceAt_slice w t _ _ _ _ FH,run_slice_any w t _ _ _ FH,p1,he,Result.andThen_ok,Dp hn];have OH:k-l=0:=by omega
     by_cases hcl:cap=l;·refine⟨_,rfl,⟨b,off,none⟩,cap-l,?_,by simp,.inl rfl,trivial⟩;show Value.slice (if cap=l then some ⟨b,off,none⟩ else Option.map (λq:Addr=>q.add (l*z)) (some ⟨b,off,none⟩)) (k-l) (cap-l)=_;rw[if_pos hcl,OH];rfl
     .refine⟨_,rfl,(Addr.mk b off none).add (l*z),cap-l,?_,by simp,.inl ?_,trivial⟩;·show Value.slice (if cap=l then some ⟨b,off,none⟩ else Option.map (λq:Addr=>q.add (l*z)) (some ⟨b,off,none⟩)) (k-l) (cap-l)=_;rw[if_neg hcl,OH];rfl
      .unfold Addr.add;split<;>simp_all
  .cases h
 .split at h;·cases h
  .rename_i O8;have O8:isStr=false:=by simpa using O8
   subst O8;obtain⟨e,ht,hn⟩:∃e,P.underlying t=some (.slice e)/\BP P e=some size:=ht;have FH:P.underlying t=some (.slice (P.elem t)):=by simp[Program.elem,ht]
   have he:P.elem t=e:=by simp[Program.elem,ht]
   rw[show x= .slice none 0 0 from hx];cases hb:DI lo.isSome hi.isSome 0 as with
   |none=>rw[hb] at h;cases h
   |some lh=>
    obtain⟨l,k⟩:=lh;rw[hb] at h;cases h;obtain⟨p1,p2,p3⟩:=JA (P:=P) (w:=w) (isSlice:=true) hb hr (Ac _);rw[run_sliceAt_slice w t _ _ _ _ FH,run_slice_any w t _ _ _ FH,p1,he,Result.andThen_ok,Dp hn];refine⟨_,rfl,?_⟩;have:l=0:=by omega
    subst this;have:k=0:=by omega
    subst this;rfl
 .cases h
end
end Go.Am
end
section
namespace Go.Am
open Go
section
variable{P:Program}{γ:Gh}{w:World}
theorem Gu{a:Aa}{v:Value}(h:BE γ a v)(hn:0<a.cells.length):A9 γ a.cells v.cells.toList/\∀u∈v.cells.toList,u.oneCell'=true:=by
 cases a with
 |agg cs=>obtain⟨us,rfl,p,q⟩:=h;exact⟨p,q⟩
 |tuple vs=>exact absurd hn (by simp[Aa.cells])
 |bool b=>rw[show v=_ from h];exact⟨⟨_,[],rfl,rfl,rfl⟩,by simp[Value.cells,Value.oneCell']⟩
 |int k n=>rw[show v=_ from h];exact⟨⟨_,[],rfl,rfl,rfl⟩,by simp[Value.cells,Value.oneCell']⟩
 |str s=>rw[show v=_ from h];exact⟨⟨_,[],rfl,rfl,rfl⟩,by simp[Value.cells,Value.oneCell']⟩
 |slnil=>rw[show v=_ from h];exact⟨⟨_,[],rfl,rfl,rfl⟩,by simp[Value.cells,Value.oneCell']⟩
 |nilFunc=>rw[show v=_ from h];exact⟨⟨_,[],rfl,rfl,rfl⟩,by simp[Value.cells,Value.oneCell']⟩
 |nilIface=>rw[show v=_ from h];exact⟨⟨_,[],rfl,rfl,rfl⟩,by simp[Value.cells,Value.oneCell']⟩
 |ptr p=>
  have h0:=h;cases p with
  |none=>rw[show v=_ from h];exact⟨⟨_,[],rfl,rfl,rfl⟩,by simp[Value.cells,Value.oneCell']⟩
  |some p=>obtain⟨i,o⟩:=p;obtain⟨b,_,rfl⟩:=h;exact⟨⟨_,[],rfl,h0,rfl⟩,by simp[Value.cells,Value.oneCell']⟩
 |CA cs=>have h0:=h;obtain⟨b,o,rfl,_⟩:=h;exact⟨⟨_,[],rfl,h0,rfl⟩,by simp[Value.cells,Value.oneCell']⟩
 |sl z Au=>have h0:=h;obtain⟨ad,cap,rfl,_⟩:=h;exact⟨⟨_,[],rfl,h0,rfl⟩,by simp[Value.cells,Value.oneCell']⟩
 |Cl id off len z=>have h0:=h;obtain⟨b,cap,_,rfl,_⟩:=h;exact⟨⟨_,[],rfl,h0,rfl⟩,by simp[Value.cells,Value.oneCell']⟩
 |map m=>
  have h0:=h;cases m with
  |none=>rw[show v=_ from h];exact⟨⟨_,[],rfl,rfl,rfl⟩,by simp[Value.cells,Value.oneCell']⟩
  |some id=>obtain⟨b,_,rfl⟩:=h;exact⟨⟨_,[],rfl,h0,rfl⟩,by simp[Value.cells,Value.oneCell']⟩
 |func fn f c=>have h0:=h;obtain⟨fs,cs,rfl,_⟩:=h;exact⟨⟨_,[],rfl,h0,rfl⟩,by simp[Value.cells,Value.oneCell']⟩
 |iface t a=>have h0:=h;obtain⟨u,rfl,_⟩:=h;exact⟨⟨_,[],rfl,h0,rfl⟩,by simp[Value.cells,Value.oneCell']⟩
theorem MT:∀(vs:List Value) (off j:Nat) (cells:Array Value),off+j+vs.length<=cells.size->
  (vs.zipIdx j).foldl (λcs (c,i)=>cs.setIfInBounds (off+i) c) cells=(cells.toList.take (off+j)++vs++cells.toList.drop (off+j+vs.length)).toArray
 |[],off,j,cells,h=>by simp
 |v::vs,off,j,cells,h=>by
  simp only[List.zipIdx_cons,List.foldl_cons];rw[MT vs off (j+1) _ (by simp at h⊢;omega)];simp only[Bd] at h;have hk:off+j<cells.toList.length:=by simp;omega
  have e0:(cells.setIfInBounds (off+j) v).toList=cells.toList.set (off+j) v:=by simp
  have e1:(cells.toList.set (off+j) v).take (off+j+1)=cells.toList.take (off+j)++[v]:=by rw[List.take_add_one,aIp (Ac _),AN hk];rfl
  have e2:(cells.toList.set (off+j) v).drop (off+j+1+vs.length)=cells.toList.drop (off+j+1+vs.length):=List.drop_set_of_lt (by omega);rw[e0,show off+(j+1)=off+j+1 by omega,e1,e2];rw[show off+j+(v::vs).length=off+j+1+vs.length by simp;omega];simp
theorem UC{place:Nat->Option (Nat×Nat)}:∀{places:List (Nat×Nat)} {as:List Aa} {parts:List (Nat×Value)} {cs:List Aa} {us:Array Value} {Gc:List Aa},AK cs (places.zip as)=some Gc->places.length=as.length->
  parts.map (λp=>place p.1)=places.map some->A9 γ as (parts.map (·.2))->A9 γ cs us.toList->(∀u∈us.toList,u.oneCell'=true)->
  ∃Dj,Instr.fill place us parts=some Dj/\A9 γ Gc Dj.toList/\∀u∈Dj.toList,u.oneCell'=true
 |[],as,parts,cs,us,Gc,h,hl,hp,ha,hr,h1=>by
  have:parts=[]:=by simpa using hp
  subst this;simp only[List.zip_nil_left,AK] at h;cases h;exact⟨us,rfl,hr,h1⟩
 |(off,size)::places,[],parts,cs,us,Gc,h,hl,hp,ha,hr,h1=>by simp at hl
 |(off,size)::places,a::as,[],cs,us,Gc,h,hl,hp,ha,hr,h1=>by simp at hp
 |(off,size)::places,a::as,(i,v)::parts,cs,us,Gc,h,hl,hp,ha,hr,h1=>by
  simp only[List.zip_cons_cons,AK] at h;split at h
  .rename_i hc;obtain⟨c1,c2,c3⟩:=hc;simp only[Bl,Hp] at hp;obtain⟨_,_,e,Xd,yi⟩:=ha.KV;simp only[Bl,Hp] at e;obtain⟨e1,e2⟩:=e;subst e1;subst e2;obtain⟨q1,q2⟩:=Gu Xd (by omega);have hsz:v.cells.size=size:=by have:=q1.length;simp at this;omega
   have W8:us.size=cs.length:=by have:=hr.length;simpa using this
   have hf:=MT v.cells.toList off 0 us (by simp[hsz];omega);obtain⟨Dj,r1,r2,r3⟩:=UC (place:=place) (us:=(us.toList.take off++v.cells.toList++us.toList.drop (off+size)).toArray) h (by simpa using hl) hp.2 yi
    (by simpa using((hr.take off).append q1).append (hr.drop (off+size)))
    (λu hu=>by
     simp only[Ao] at hu;rcases hu with(hu|hu)|hu
     .exact h1 u (Bf hu)
     .exact q2 u hu
     .exact h1 u (Bv hu))
   refine⟨Dj,?_,r2,r3⟩;rw[Instr.fill];simp only[hp.1];rw[if_neg (by simp[hsz];omega)];rw[<-r1];congr 1
   have e5:v.cells.toList.length=size:=by simpa using hsz
   rw[<-Array.foldl_toList,Array.toList_zipIdx,hf];simp[e5]
  .cases h
theorem Ww{v:Value}{a:Aa}(h:JQ v=some a):A9 γ a.cells v.cells.toList/\∀u∈v.cells.toList,u.oneCell'=true:=by
 have hr:=ER (γ:=γ) h;unfold JQ at h;split at h
 .rename_i cs;cases hs:KJ cs.toList with
  |none=>rw[hs] at h;cases h
  |some as=>rw[hs] at h;cases h;exact LS hs
 .refine Gu hr ?_;unfold NS at h;split at h<;>first|(cases h;simp[Aa.cells];done)|skip
  .split at h;·cases h;simp[Aa.cells]
   .cases h
  .cases h
theorem Nu{t:TypeId}{fs:Array Field}(hu:P.underlying t=some (.struct fs)){place:Nat->Option (Nat×Nat)}(ZH:∀(i:Nat) (f:Field) (n:Nat),fs[i]?=some f->BP P f.type=some n->place i=some (f.offset,n)):
  ∀{parts:List (Nat×Operand)} {ps:List (Nat×Nat)},I7 P t parts=some ps->parts.map (λp=>place p.1)=ps.map some
 |[],ps,h=>by cases h;rfl
 |(i,x)::rest,ps,h=>by
  simp only[I7,hu] at h;split at h
  .rename_i f hf;split at h;·rename_i n r h1 h2;cases h;simp[ZH i f n hf h1,Nu hu ZH h2]
   .cases h
  .cases h
theorem N0{t e:TypeId}{len n:Nat}(hu:P.underlying t=some (.array len e))(hn:BP P e=some n):
  ∀{parts:List (Nat×Operand)} {ps:List (Nat×Nat)},I7 P t parts=some ps->parts.map (λp=>some (p.1*n,n))=ps.map some
 |[],ps,h=>by cases h;rfl
 |(i,x)::rest,ps,h=>by
  simp only[I7,hu] at h;split at h
  .split at h;·rename_i n' r h1 h2;cases h;rw[hn] at h1;cases h1;simp[N0 hu hn h2]
   .cases h
  .cases h
theorem SG:∀(fs:List Field),(fs.all λf=>(BP P f.type).isSome)=true->∃places,fs.mapM (λf=>(P.info? f.type).map λi=>(f.offset,i.size))=some places/\
  ∀(i:Nat) (f:Field) (n:Nat),fs[i]?=some f->BP P f.type=some n->places[i]?=some (f.offset,n)
 |[],_=>⟨[],rfl,by simp⟩
 |f::fs,h=>by
  simp only[List.all_cons,BL] at h;obtain⟨rest,h1,h2⟩:=SG fs h.2;cases hi:P.info? f.type with
  |none=>simp[BP,hi] at h
  |some ti=>
   refine⟨(f.offset,ti.size)::rest,by simp[hi,h1],λi g n hg hn=>?_⟩;cases i with
   |zero=>simp at hg;subst hg;simp[BP,hi] at hn;simp[hn]
   |succ i=>simpa using h2 i g n (by simpa using hg) hn
theorem qR{t:TypeId}{z:Aa}{parts:Array (Nat×Operand)}{ps:List (Nat×Nat)}{ρ:Operand->Value}(hz:GJ P t=some z)(hp:I7 P t parts.toList=some ps)(hb:TS P t=true){as:List Aa}
  (ha:A9 γ as ((parts.toList.map (·.2)).map ρ)) {u:Aa} (h:Aw (.Bs z.cells ps) as=some u):∃v,(Instr.build t (parts.map λ(i,x)=>(i,ρ x))).run P w= .ok v w/\BE γ u v:=by
 simp only[Aw] at h;split at h
 .rename_i hl;cases hf:AK z.cells (ps.zip as) with
  |none=>rw[hf] at h;cases h
  |some cs=>
   rw[hf] at h;cases h;unfold GJ at hz;cases hi:P.info? t with
   |none=>rw[hi] at hz;cases hz
   |some ti=>
    cases ZF:ti.zero with
    |none=>rw[hi] at hz;simp[ZF] at hz
    |some zv=>
     rw[hi] at hz;simp only[Ct,ZF] at hz;obtain⟨z1,z2⟩:=Ww (γ:=γ) hz;have hparts:((parts.map λ(i,x)=>(i,ρ x)).toList.map (·.2))=(parts.toList.map (·.2)).map ρ:=by simp
     unfold TS at hb;split at hb
     .rename_i fs hu;obtain⟨places,m1,m2⟩:=SG fs.toList hb;obtain⟨Dj,f1,f2,f3⟩:=UC (place:=λi=>places.toArray[i]?) (parts:=(parts.map λ(i,x)=>(i,ρ x)).toList) hf hl
       (by have:=Nu hu (place:=λi=>places.toArray[i]?) (λi f n h1 h2=>by simpa using m2 i f n (by simpa using h1) h2) hp;rw[<-this];simp) (by rw[hparts];exact ha) z1 z2
      exact⟨.agg Dj,run_build w t _ _ (by unfold Program.built;simp only[hi,hu,ZF,m1];exact f1),Dj,rfl,f2,f3⟩
     .rename_i len e hu;cases he:P.info? e with
      |none=>simp[BP,he] at hb
      |some ei=>
       obtain⟨Dj,f1,f2,f3⟩:=UC (place:=λi=>some (i*ei.size,ei.size)) (parts:=(parts.map λ(i,x)=>(i,ρ x)).toList) hf hl
        (by have:=N0 hu (n:=ei.size) (by simp[BP,he]) hp;rw[<-this];simp) (by rw[hparts];exact ha) z1 z2
       exact⟨.agg Dj,run_build w t _ _ (by unfold Program.built;simp only[hi,hu,ZF,he];exact f1),Dj,rfl,f2,f3⟩
     .cases hb
 .cases h
end
end Go.Am
end
section
namespace Go.Am
open Go
def Wg.still:Wg->Bool
 | .append _ _| .Bx _| .s2b| .Th=>false
 |_=>true
theorem Ha{o:uT}{dst:Option Nat}{x:Option (List Aa)}{r:Er}(h:Ti o dst x=some r):∃args,x=some args/\r= .mem o args dst:=by
 unfold Ti at h;split at h;·cases h;exact⟨_,rfl,rfl⟩
 .cases h
theorem J4{o:uT}{dst:Option Nat}{x:Option (List Aa)}{p:Wg}{args:List Aa}{d:Option Nat}{own:Bool}{dem:Option (Nat×Aa)}:¬Ti o dst x=some (.op p args d own dem):=λh=>by obtain⟨_,_,e⟩:=Ha h;cases e
theorem Dy{p:Wg}{dst:Option Nat}{x:Option (List Aa)}{r:Er}(h:RF p dst x=some r):∃args,x=some args/\r= .op p args dst false none:=by
 cases x with
 |none=>cases h
 |some args=>cases h;exact⟨args,rfl,rfl⟩
section
variable{C:FG}{γ0 γ:Gh}{w0 w:World}{β:Nat->Nat}{σ:BD}{h:Ad}{a:Act}{fid:FuncId}{ops:List Oper}
def Hj(P:Program)(γ:Gh)(a:Act)(o:Oper)(w:World)(p:Wg)(args:List Aa):Prop:=
 ∀u,Aw p args=some u->∃v,(execOp a.eval o).run P w= .ok (.value v) w/\BE γ u v
theorem El{P:Program}{s:Sem Value}{v:Value}(hs:s.run P w= .ok v w):(do pure (Next.value (<-s)):Sem Next).run P w= .ok (.value v) w:=by simp[hs]
theorem fE{o:Oper}{c x y:Operand}(ho:o.op= .pick c x y)(hr:CR C γ0 w0 γ β σ h a w){args:List Aa}(ha:Bq C σ [c,x,y]=some args):Hj C.P γ a o w .pick args:=by
 intro u hu;simp only[Aw] at hu;split at hu;·rename_i b p q;cases hu;obtain⟨_,_,_,e,h1,h2,h3⟩:=(Dx hr ha).SF;simp only[Bl,DP,Hp] at e;obtain⟨e1,e2,e3,_⟩:=e;rw[<-e1] at h1;rw[<-e2] at h2;rw[<-e3] at h3;refine⟨if b then a.eval x else a.eval y,?_,by cases b<;>simpa⟩;simp[execOp,ho,QD h1,asBool]
 .cases hu
theorem qS{o:Oper}{op:BinOp}{t:TypeId}{x y:Operand}{p:Wg}(hp:OF C.P op t=some p)(he:execOp a.eval o=(do pure (Next.value (<-(do eqGuard op t x y (a.eval x) (a.eval y);binOp op t (a.eval x) (a.eval y):Sem Value)))))
  (hr:CR C γ0 w0 γ β σ h a w) {args:List Aa} (ha:Bq C σ [x,y]=some args):Hj C.P γ a o w p args:=by
 intro u hu;obtain⟨v,p1,p2⟩:=Z8 (w:=w) hp x y (Dx hr ha) hu;exact⟨v,by rw[he];exact El p1,p2⟩
theorem FZ(hr:CR C γ0 w0 γ β σ h a w){x:Operand}{args:List Aa}(ha:Bq C σ [x]=some args):∃u,args=[u]/\BE γ u (a.eval x):=by
 have h1:=Dx hr ha;cases args with
 |nil=>cases h1
 |cons u us=>
  obtain⟨_,_,e,h2,h3⟩:=h1.KV;cases e;cases us with
  |nil=>exact⟨u,rfl,h2⟩
  |cons _ _=>obtain⟨_,_,e,_⟩:=h3.KV;cases e
theorem Fa(hr:CR C γ0 w0 γ β σ h a w){x y:Operand}{args:List Aa}(ha:Bq C σ [x,y]=some args):∃u v,args=[u,v]/\BE γ u (a.eval x)/\BE γ v (a.eval y):=by
 have h1:=Dx hr ha;cases args with
 |nil=>cases h1
 |cons u us=>
  obtain⟨_,_,e,h2,h3⟩:=h1.KV;cases e;cases us with
  |nil=>cases h3
  |cons v vs=>
   obtain⟨_,_,e,h4,h5⟩:=h3.KV;cases e;cases vs with
   |nil=>exact⟨u,v,rfl,h2,h4⟩
   |cons _ _=>obtain⟨_,_,e,_⟩:=h5.KV;cases e
theorem vL{o:Oper}{op:UnOp}{x:Operand}(he:execOp a.eval o=(do pure (Next.value (<-Op.unary op (a.eval x)))))
  (hr:CR C γ0 w0 γ β σ h a w) {args:List Aa} (ha:Bq C σ [x]=some args):Hj C.P γ a o w (.un op) args:=by
 intro u hu;obtain⟨v,rfl,h1⟩:=FZ hr ha;simp only[Aw] at hu;obtain⟨r,p1,p2⟩:=yh (P:=C.P) (w:=w) h1 hu;exact⟨r,by rw[he];exact El p1,p2⟩
theorem fF{o:Oper}{src dst:TypeId}{k l:IntKind}{x:Operand}(hs:C.P.underlying src=some (.int l))(hd:C.P.underlying dst=some (.int k))(he:execOp a.eval o=(do pure (Next.value (<-convert src dst (a.eval x)))))
  (hr:CR C γ0 w0 γ β σ h a w) {args:List Aa} (ha:Bq C σ [x]=some args):Hj C.P γ a o w (.conv k) args:=by
 intro u hu;obtain⟨v,rfl,h1⟩:=FZ hr ha;simp only[Aw] at hu;split at hu;·rename_i e;cases e;cases hu;rw[D2 h1] at he;exact⟨_,by rw[he];exact El (Yc hs hd),rfl⟩
 .cases hu
theorem qT{o:Oper}{src dst:TypeId}{l:IntKind}{x:Operand}(hs:C.P.underlying src=some (.int l))(hd:C.P.underlying dst=some .string)(he:execOp a.eval o=(do pure (Next.value (<-convert src dst (a.eval x)))))
  (hr:CR C γ0 w0 γ β σ h a w) {args:List Aa} (ha:Bq C σ [x]=some args):Hj C.P γ a o w .i2s args:=by
 intro u hu;obtain⟨v,rfl,h1⟩:=FZ hr ha;simp only[Aw] at hu;split at hu;·rename_i e;cases e;cases hu;rw[D2 h1] at he;exact⟨_,by rw[he];exact El (Yd hs hd),rfl⟩
 .cases hu
theorem aA{o:Oper}{t:TypeId}{x:Operand}{f off:Nat}{sh:Option Nat}(hf:HD C.P t f=some (off,sh))(he:execOp a.eval o=(do pure (Next.value (<-Instr.field t (a.eval x) f))))
  (hr:CR C γ0 w0 γ β σ h a w) {args:List Aa} (ha:Bq C σ [x]=some args):Hj C.P γ a o w (.part off sh) args:=by
 intro u hu;obtain⟨v,rfl,h1⟩:=FZ hr ha;simp only[Aw] at hu;split at hu;·rename_i e;cases e;obtain⟨r,p1,p2⟩:=qP (w:=w) hf h1 hu;exact⟨r,by rw[he];exact El p1,p2⟩
 .cases hu
theorem Tn{o:Oper}{t:TypeId}{x:Operand}{f off:Nat}{sh:Option Nat}(hf:HD C.P t f=some (off,sh))(he:execOp a.eval o=(do pure (Next.value (<-Instr.fieldAt t (a.eval x) f))))
  (hr:CR C γ0 w0 γ β σ h a w) {args:List Aa} (ha:Bq C σ [x]=some args):Hj C.P γ a o w (.EC off) args:=by
 intro u hu;obtain⟨v,rfl,h1⟩:=FZ hr ha;simp only[Aw] at hu;obtain⟨r,p1,p2⟩:=Z9 (w:=w) hf h1 hu;exact⟨r,by rw[he];exact El p1,p2⟩
theorem qU{o:Oper}{x:Operand}{i:Nat}(he:execOp a.eval o=(do pure (Next.value (<-Instr.extract (a.eval x) i))))
  (hr:CR C γ0 w0 γ β σ h a w) {args:List Aa} (ha:Bq C σ [x]=some args):Hj C.P γ a o w (.ext i) args:=by
 intro u hu;obtain⟨v,rfl,h1⟩:=FZ hr ha;simp only[Aw] at hu;split at hu;·rename_i e;cases e;obtain⟨r,p1,p2⟩:=fh (P:=C.P) (w:=w) h1 hu;exact⟨r,by rw[he];exact El p1,p2⟩
 .cases hu
theorem To{o:Oper}{t:TypeId}{x y:Operand}(ht:C.P.underlying t=some .string)(he:execOp a.eval o=(do pure (Next.value (<-Instr.index t (a.eval x) (a.eval y)))))
  (hr:CR C γ0 w0 γ β σ h a w) {args:List Aa} (ha:Bq C σ [x,y]=some args):Hj C.P γ a o w .RD args:=by
 intro u hu;obtain⟨p,q,rfl,h1,h2⟩:=Fa hr ha;simp only[Aw] at hu;split at hu
 .rename_i e;cases e;split at hu
  .rename_i s k i h0;cases hb:s[i.toNat]? with
   |none=>rw[hb] at hu;cases hu
   |some b=>rw[hb] at hu;cases hu;rw[MR h1,D2 h2] at he;exact⟨_,by rw[he];exact El (Wv ht h0 hb),rfl⟩
  .cases hu
 .cases hu
theorem Tp{o:Oper}{t e:TypeId}{len n:Nat}{sh:Option Nat}{x y:Operand}(ht:C.P.underlying t=some (.array len e))(hn:BP C.P e=some n)(eF:EM C.P e=some sh)(he:execOp a.eval o=(do pure (Next.value (<-Instr.index t (a.eval x) (a.eval y)))))
  (hr:CR C γ0 w0 γ β σ h a w) {args:List Aa} (ha:Bq C σ [x,y]=some args):Hj C.P γ a o w (.xl len n sh) args:=by
 intro u hu;obtain⟨p,q,rfl,h1,h2⟩:=Fa hr ha;simp only[Aw] at hu;split at hu
 .rename_i e;cases e;rename_i cs k i;cases hb:Ma i len with
  |none=>rw[hb] at hu;cases hu
  |some j=>rw[hb] at hu;simp only[Ct] at hu;rw[D2 h2] at he;obtain⟨r,p1,p2⟩:=Wu (w:=w) (k:=k) ht hn eF h1 hb hu;exact⟨r,by rw[he];exact El p1,p2⟩
 .cases hu
theorem UD{o:Oper}{t e:TypeId}{n:Nat}{x y:Operand}(ht:C.P.underlying t=some (.slice e))(hn:BP C.P e=some n)(he:execOp a.eval o=(do pure (Next.value (<-Instr.indexAt t (a.eval x) (a.eval y)))))
  (hr:CR C γ0 w0 γ β σ h a w) {args:List Aa} (ha:Bq C σ [x,y]=some args):Hj C.P γ a o w (.Fj n) args:=by
 intro u hu;obtain⟨p,q,rfl,h1,h2⟩:=Fa hr ha;simp only[Aw] at hu;split at hu;·rename_i e;cases e;rename_i k i;rw[D2 h2] at he;obtain⟨r,p1,p2⟩:=fB (w:=w) (k:=k) ht hn h1 hu;exact⟨r,by rw[he];exact El p1,p2⟩
 .cases hu
theorem Wx{o:Oper}{t e:TypeId}{len n:Nat}{x y:Operand}(ht:C.P.underlying t=some (.array len e))(hn:BP C.P e=some n)(he:execOp a.eval o=(do pure (Next.value (<-Instr.indexAt t (a.eval x) (a.eval y)))))
  (hr:CR C γ0 w0 γ β σ h a w) {args:List Aa} (ha:Bq C σ [x,y]=some args):Hj C.P γ a o w (.Uh len n) args:=by
 intro u hu;obtain⟨p,q,rfl,h1,h2⟩:=Fa hr ha;simp only[Aw] at hu;split at hu
 .rename_i e;cases e;rename_i k i;cases hb:Ma i len with
  |none=>rw[hb] at hu;cases hu
  |some j=>rw[hb] at hu;simp only[Ct] at hu;rw[D2 h2] at he;obtain⟨r,p1,p2⟩:=qQ (w:=w) (k:=k) ht hn h1 hb hu;exact⟨r,by rw[he];exact El p1,p2⟩
 .cases hu
theorem SH{o:Oper}{t:TypeId}{x:Operand}{lo hi:Option Operand}{isStr:Bool}{size:Nat}(ht:if isStr=true then C.P.underlying t=some .string else∃e,C.P.underlying t=some (.slice e)/\BP C.P e=some size)
  (he:execOp a.eval o=(do pure (Next.value (<-Instr.sliceAt t (a.eval x) (lo.map a.eval) (hi.map a.eval) none))))
  (hr:CR C γ0 w0 γ β σ h a w) {args:List Aa} (ha:Bq C σ (x::(lo.toList++hi.toList))=some args):Hj C.P γ a o w (.Hq size isStr lo.isSome hi.isSome) args:=by
 intro u hu;have h1:=Dx hr ha;cases args with
 |nil=>cases h1
 |cons s as=>obtain⟨_,_,e,h2,h3⟩:=h1.KV;cases e;simp only[Aw] at hu;obtain⟨r,p1,p2⟩:=fj (P:=C.P) (w:=w) (lo:=lo.map a.eval) (hi:=hi.map a.eval) ht h2 (by cases lo<;>cases hi<;>simpa using h3) (by simpa using hu);exact⟨r,by rw[he];exact El p1,p2⟩
theorem aB{o:Oper}{t:TypeId}{parts:Array (Nat×Operand)}{z:Aa}{ps:List (Nat×Nat)}(hz:GJ C.P t=some z)(hp:I7 C.P t parts.toList=some ps)(hb:TS C.P t=true)
  (he:execOp a.eval o=(do pure (Next.value (<-Instr.build t (parts.map λ(i,x)=>(i,a.eval x))))))
  (hr:CR C γ0 w0 γ β σ h a w) {args:List Aa} (ha:Bq C σ (parts.toList.map (·.2))=some args):Hj C.P γ a o w (.Bs z.cells ps) args:=by
 intro u hu;obtain⟨r,p1,p2⟩:=qR (w:=w) hz hp hb (Dx hr ha) hu;exact⟨r,by rw[he];exact El p1,p2⟩
theorem Ye{o:Oper}{x:Operand}(ho:o.op= .nilCheck x)(hr:CR C γ0 w0 γ β σ h a w){args:List Aa}(ha:Bq C σ [x]=some args):Hj C.P γ a o w .KQ args:=by
 intro u hu;obtain⟨v,rfl,h1⟩:=FZ hr ha;simp only[Aw,ZV] at hu;split at hu;·rename_i p;cases hu;obtain⟨i,k⟩:=p;obtain⟨b,hb,hv⟩:=h1;exact⟨_,by simp only[execOp,ho,hv];rfl,b,hb,rfl⟩
 .cases hu;obtain⟨b,k,hv,hm⟩:=h1;exact⟨_,by simp only[execOp,ho,hv];rfl,b,k,rfl,hm⟩
 .cases hu;obtain⟨fs,cs,hv,p,q⟩:=h1;exact⟨_,by simp only[execOp,ho,hv];rfl,fs,cs,rfl,p,q⟩
 .cases hu
theorem LU:∀{xs:List Operand} {us:List Aa},Bq C σ xs=some us->us.length=xs.length
 |[],us,h=>by cases h;rfl
 |x::xs,us,h=>by
  unfold Bq at h;split at h;·rename_i u Dj h1 h2;cases h;simp[LU h2]
  .cases h
theorem MU{P:Program}{o:Oper}{c:Call}{b:Builtin}{s:Sem Value}(ho:o.op= .call c)(hc:c.callee= .builtin b)(hs:builtin b c.argTypes o.type (c.args.map λ| .const _=>true|_=>false) (c.args.map a.eval)=(do pure (Next.value (<-s)))){v:Value}
  (hv:s.run P w= .ok v w):(execOp a.eval o).run P w= .ok (.value v) w:=by
 have:execOp a.eval o=(do pure (Next.value (<-s))):=by rw[<-hs];simp only[execOp,ho,resolve,hc];rfl
 rw[this];exact El hv
theorem Xe{o:Oper}{c:Call}{t:TypeId}{isStr:Bool}(ho:o.op= .call c)(hc:c.callee= .builtin .len)(h0:c.argTypes[0]?=some t)(ht:if isStr=true then C.P.underlying t=some .string else∃e,C.P.underlying t=some (.slice e))
  (hr:CR C γ0 w0 γ β σ h a w) {args:List Aa} (ha:Bq C σ c.args.toList=some args):Hj C.P γ a o w (.len isStr) args:=by
 intro u hu;simp only[Aw] at hu;split at hu
 .rename_i s;have hl:=LU ha;obtain⟨x,hx⟩:∃x,c.args.toList=[x]:=List.length_eq_one_iff.1 hl.symm;rw[hx] at ha;obtain⟨_,e,h1⟩:=FZ hr ha;cases e;obtain⟨r,p1,p2⟩:=fg (P:=C.P) (w:=w) (ty:=o.type) ht h0 h1 hu;have e:c.args.map a.eval=#[a.eval x]:=by apply Jh;simp[hx]
  exact⟨r,MU ho hc (s:=Builtin.len_ c.argTypes o.type #[a.eval x]) (by rw[e];rfl) p1,p2⟩
 .cases hu
theorem QE{o:Oper}{c:Call}{isMax:Bool}(ho:o.op= .call c)(hc:c.callee= .builtin (if isMax then .max else .min))(hr:CR C γ0 w0 γ β σ h a w){args:List Aa}(ha:Bq C σ c.args.toList=some args):Hj C.P γ a o w (.Kk isMax) args:=by
 intro u hu;simp only[Aw] at hu;split at hu
 .rename_i k p l q;split at hu
  .rename_i hk;subst hk;cases hu;have hl:=LU ha;obtain⟨x,y,hx⟩:∃x y,c.args.toList=[x,y]:=by
    cases hq:c.args.toList with
    |nil=>rw[hq] at hl;simp at hl
    |cons x xs=>cases xs with
     |nil=>rw[hq] at hl;simp at hl
     |cons y ys=>cases ys with
      |nil=>exact⟨x,y,rfl⟩
      |cons _ _=>rw[hq] at hl;simp at hl
   rw[hx] at ha;obtain⟨_,_,e,h1,h2⟩:=Fa hr ha;cases e;have e:c.args.map a.eval=#[.int k p,.int k q]:=by apply Jh;simp[hx,D2 h1,D2 h2]
   cases isMax with
   |true=>exact⟨_,MU ho hc (s:=Builtin.max_ c.argTypes o.type #[.int k p,.int k q]) (by rw[e];rfl) (by simp[Builtin.max_,Builtin.max2]),rfl⟩
   |false=>exact⟨_,MU ho hc (s:=Builtin.min_ c.argTypes o.type #[.int k p,.int k q]) (by rw[e];rfl) (by simp[Builtin.min_,Builtin.min2]),rfl⟩
  .cases hu
 .cases hu
end
end Go.Am
end
section
namespace Go.Am
open Go
section
variable{C:FG}{γ0 γ:Gh}{w0 w:World}{β:Nat->Nat}{σ:BD}{h:Ad}{a:Act}{fid:FuncId}{ops:List Oper}
theorem Lx{x:Operand}{d:Nat}{take:Bool}{r:Er}(h:Jw C σ x d take=some r):∃ws,r= .pure ws:=by
 unfold Jw at h;split at h;·cases h;exact⟨_,rfl⟩
 .cases h;exact⟨_,rfl⟩
 .split at h;·cases h;exact⟨_,rfl⟩
  .cases hc:HE _ with
   |none=>rw[hc] at h;cases h
   |some s=>rw[hc] at h;cases h;exact⟨_,rfl⟩
 .cases hc:HE _ with
  |none=>rw[hc] at h;cases h
  |some s=>rw[hc] at h;cases h;exact⟨_,rfl⟩
 .cases h
theorem Xf{t:TypeId}{v:Aa}{d:Nat}{p:Wg}{args:List Aa}{dst:Option Nat}{own:Bool}{dem:Option (Nat×Aa)}:SC C fid t v d≠some (.op p args dst own dem):=by
 unfold SC;intro h;split at h;·cases h
 .split at h;·cases h
  .split at h<;>cases h
theorem fG{t:TypeId}{x:Operand}{d:Nat}{take:Bool}{p:Wg}{args:List Aa}{dst:Option Nat}{own:Bool}{dem:Option (Nat×Aa)}:Kn C σ t x d take≠some (.op p args dst own dem):=by
 unfold Kn;intro h;split at h;·cases h
 .split at h;·simp only at h;split at h<;>cases h
  .cases h
 .split at h<;>cases h
 .cases h
theorem aC{t:TypeId}{x y:Operand}{p:Wg}{args:List Aa}{dst:Option Nat}{own:Bool}{dem:Option (Nat×Aa)}:IB C σ t x y≠some (.op p args dst own dem):=by
 unfold IB;intro h;split at h;·cases h
 .split at h<;>cases h
 .cases h
theorem qV{o:Oper}{p:Wg}{args:List Aa}{dst:Option Nat}{own:Bool}{dem:Option (Nat×Aa)}(hc:Fq C fid ops σ o=some (.op p args dst own dem))(hst:p.still=true)(hr:CR C γ0 w0 γ β σ h a w):
  Hj C.P γ a o w p args/\dst=o.dst/\own=false/\dem=none:=by
 unfold Fq at hc
 split at hc
 .split at hc
  .obtain⟨ws,e⟩:=Lx hc;cases e
  .cases hc
 .split at hc
  .obtain⟨ws,e⟩:=Lx hc;cases e
  .cases hc
 .rename_i c x y ho
  split at hc
  .obtain⟨ws,e⟩:=Lx hc;cases e
  .obtain⟨ws,e⟩:=Lx hc;cases e
  .obtain⟨as,e1,e2⟩:=Dy hc
   cases e2
   exact⟨fE ho hr e1,rfl,rfl,rfl⟩
 .split at hc
  .split at hc
   .split at hc<;>cases hc
   .exact absurd hc Xf
  .cases hc
 .split at hc
  .exact absurd hc Xf
  .cases hc
 .rename_i t parts ho
  split at hc
  .rename_i z ps hz hp
   split at hc
   .rename_i hb
    obtain⟨as,e1,e2⟩:=Dy hc
    cases e2
    exact⟨aB hz hp hb (by simp[execOp,ho]) hr e1,rfl,rfl,rfl⟩
   .cases hc
  .cases hc
 .split at hc
  .split at hc
   .split at hc
    .cases hq:Bq C σ _ with
     |none=>rw[hq] at hc;cases hc
     |some q=>rw[hq] at hc;cases hc;cases hst
    .cases hc
   .cases hc
  .cases hc
 .split at hc
  .exact absurd hc fG
  .cases hc
 .split at hc
  .exact absurd hc aC
  .cases hc
 .rename_i x ho
  split at hc
  .cases hc
  .cases hc
  .obtain⟨as,e1,e2⟩:=Dy hc
   cases e2
   exact⟨Ye ho hr e1,rfl,rfl,rfl⟩
 .rename_i op t x y k ho
  split at hc
  .rename_i q hq
   obtain⟨as,e1,e2⟩:=Dy hc
   cases e2
   exact⟨qS hq (by simp[execOp,ho]) hr e1,rfl,rfl,rfl⟩
  .cases hc
 .rename_i op t x ho
  obtain⟨as,e1,e2⟩:=Dy hc
  cases e2
  exact⟨vL (by simp[execOp,ho]) hr e1,rfl,rfl,rfl⟩
 .rename_i src aJg x ho
  split at hc
  .cases hq:Es C σ x with
   |none=>rw[hq] at hc;cases hc
   |some q=>rw[hq] at hc;cases hc
  .split at hc
   .cases hq:Es C σ x with
    |none=>rw[hq] at hc;cases hc
    |some q=>rw[hq] at hc;cases hc
   .obtain⟨as,e1,e2⟩:=Dy hc
    cases e2;cases hst
  .rename_i q LV Rx hq
   obtain⟨as,e1,e2⟩:=Dy hc
   cases e2
   refine⟨?_,rfl,rfl,rfl⟩
   unfold Us at hq
   split at hq
   .rename_i hs hd
    cases hq
    exact fF hs hd (by simp[execOp,ho]) hr e1
   .rename_i hs hd
    cases hq
    exact qT hs hd (by simp[execOp,ho]) hr e1
   .cases hq
   .split at hq
    .cases hq;cases hst
    .cases hq
   .split at hq
    .cases hq;cases hst
    .cases hq
   .cases hq
  .cases hc
 .split at hc
  .cases hc
  .cases hc
 .cases hc
 .split at hc
  .split at hc<;>cases hc
  .cases hc
 .split at hc
  .split at hc<;>cases hc
  .cases hc
 .split at hc
  .split at hc<;>cases hc
  .cases hc
 .split at hc
  .split at hc<;>cases hc
  .cases hc
 .split at hc
  .split at hc
   .exact absurd hc J4
   .cases hc
  .cases hc
 .split at hc
  .cases hc
  .exact absurd hc J4
  .cases hc
 .split at hc
  .split at hc
   .exact absurd hc J4
   .cases hc
  .cases hc
 .split at hc
  .exact absurd hc J4
  .cases hc
 .rename_i t x lo hi ho
  split at hc
  .rename_i ht
   obtain⟨as,e1,e2⟩:=Dy hc
   cases e2
   exact⟨SH (isStr:=true) ht (by simp[execOp,ho]) hr e1,rfl,rfl,rfl⟩
  .rename_i e ht
   split at hc
   .rename_i n hn
    split at hc
    .exact absurd hc J4
    .obtain⟨as,e1,e2⟩:=Dy hc
     cases e2
     exact⟨SH (isStr:=false) ⟨e,ht,hn⟩ (by simp[execOp,ho]) hr e1,rfl,rfl,rfl⟩
   .cases hc
  .cases hc
 .rename_i t x f ho
  split at hc
  .rename_i off sh d hf hd
   split at hc
   .cases hc
   .cases hc
   .obtain⟨as,e1,e2⟩:=Dy hc
    cases e2
    exact⟨Tn hf (by simp[execOp,ho]) hr e1,hd.symm,rfl,rfl⟩
  .cases hc
 .rename_i t x f ho
  split at hc
  .rename_i off sh hf
   obtain⟨as,e1,e2⟩:=Dy hc
   cases e2
   exact⟨aA hf (by simp[execOp,ho]) hr e1,rfl,rfl,rfl⟩
  .cases hc
 .rename_i t x i ho
  split at hc
  .rename_i e ht
   split at hc
   .rename_i n hn
    obtain⟨as,e1,e2⟩:=Dy hc
    cases e2
    exact⟨UD ht hn (by simp[execOp,ho]) hr e1,rfl,rfl,rfl⟩
   .cases hc
  .rename_i len e ht
   split at hc
   .rename_i n hn
    split at hc
    .cases hc
    .obtain⟨as,e1,e2⟩:=Dy hc
     cases e2
     exact⟨Wx ht hn (by simp[execOp,ho]) hr e1,rfl,rfl,rfl⟩
   .cases hc
  .cases hc
 .rename_i t x i ho
  split at hc
  .rename_i ht
   obtain⟨as,e1,e2⟩:=Dy hc
   cases e2
   exact⟨To ht (by simp[execOp,ho]) hr e1,rfl,rfl,rfl⟩
  .rename_i len e ht
   split at hc
   .rename_i n sh hn eF
    obtain⟨as,e1,e2⟩:=Dy hc
    cases e2
    exact⟨Tp ht hn eF (by simp[execOp,ho]) hr e1,rfl,rfl,rfl⟩
   .cases hc
  .cases hc
 .rename_i x i ho
  obtain⟨as,e1,e2⟩:=Dy hc
  cases e2
  exact⟨qU (by simp[execOp,ho]) hr e1,rfl,rfl,rfl⟩
 .rename_i c ho
  unfold PM at hc
  split at hc
  .rename_i hcl
   split at hc
   .rename_i t h0
    split at hc
    .rename_i ht
     obtain⟨as,e1,e2⟩:=Dy hc
     cases e2
     exact⟨Xe (isStr:=true) ho hcl h0 ht hr e1,rfl,rfl,rfl⟩
    .rename_i e ht
     obtain⟨as,e1,e2⟩:=Dy hc
     cases e2
     exact⟨Xe (isStr:=false) ho hcl h0 ⟨e,ht⟩ hr e1,rfl,rfl,rfl⟩
    .cases hc
   .cases hc
  .split at hc
   .split at hc
    all_goals first
     |(cases hc;done)
     | (split at hc
        . split at hc
          . split at hc
            . split at hc
              . split at hc
                . cases hc
                . split at hc
                  . cases hc
                  . cases hc; cases hst
              . split at hc <;> cases hc
            . cases hc
          . cases hc
        . cases hc)
   .cases hc
  .split at hc
   .split at hc
    all_goals first
     |(cases hc;done)
     | (split at hc
        . exact absurd hc J4
        . cases hc)
   .cases hc
  .split at hc
   .split at hc
    .split at hc
     .exact absurd hc J4
     .cases hc
    .cases hc
   .cases hc
  .rename_i hcl
   split at hc
   .obtain⟨as,e1,e2⟩:=Dy hc
    cases e2
    exact⟨QE (isMax:=true) ho hcl hr e1,rfl,rfl,rfl⟩
   .cases hc
  .rename_i hcl
   split at hc
   .obtain⟨as,e1,e2⟩:=Dy hc
    cases e2
    exact⟨QE (isMax:=false) ho hcl hr e1,rfl,rfl,rfl⟩
   .cases hc
  .split at hc
   .split at hc
    .split at hc
     .exact absurd hc J4
     .cases hc
    .cases hc
   split at hc
   .cases hq:Bq C σ c.args.toList with
    |none=>rw[hq] at hc;cases hc
    |some q=>
     rw[hq] at hc
     simp only[BR,BA] at hc
     split at hc<;>cases hc
   .cases hc
  .split at hc<;>cases hc
  .cases hc
 .cases hc
end
end Go.Am
end
