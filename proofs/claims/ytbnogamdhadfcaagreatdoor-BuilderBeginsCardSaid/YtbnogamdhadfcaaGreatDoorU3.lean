/- Lemmas -/
import Derived.Test.YtbnogamdhadfcaaGreatDoorU2
import Derived.Laws.Slices
set_option linter.unusedVariables false
set_option linter.unusedSimpArgs false
section
namespace Go.Am
open Go
section
variable{P:Program}{γ:Gh}{w:World}
theorem Qy{a:Bool}{v:Value}(h:BF γ (.bool a) v):v= .bool a:=h
theorem D3{k:IntKind}{a:Int}{v:Value}(h:BF γ (.int k a) v):v= .int k a:=h
theorem MK{a:As}{v:Value}(h:BF γ (.str a) v):v= .string ⟨⟨a⟩⟩:=h
theorem A8.d_{us:List Value}(h:A8 γ [] us):us=[]:=h
theorem A8.KY{a:Aa}{l:List Aa}{us:List Value}(h:A8 γ (a::l) us):∃u Dk,us=u::Dk/\BF γ a u/\A8 γ l Dk:=h
theorem A8.one{a:Aa}{us:List Value}(h:A8 γ [a] us):∃u,us=[u]/\BF γ a u:=by obtain⟨u,Dk,rfl,h1,h2⟩:=h;rw[h2.d_];exact⟨u,rfl,h1⟩
theorem A8.ZW{a b:Aa}{us:List Value}(h:A8 γ [a,b] us):∃u v,us=[u,v]/\BF γ a u/\BF γ b v:=by obtain⟨u,Dk,rfl,h1,h2⟩:=h;obtain⟨v,rfl,h3⟩:=h2.one;exact⟨u,v,rfl,h1,h3⟩
theorem A8.Sx{a b c:Aa}{us:List Value}(h:A8 γ [a,b,c] us):∃u v x,us=[u,v,x]/\BF γ a u/\BF γ b v/\BF γ c x:=by obtain⟨u,Dk,rfl,h1,h2⟩:=h;obtain⟨v,x,rfl,h3,h4⟩:=h2.ZW;exact⟨u,v,x,rfl,h1,h3,h4⟩
def Value.I7:Value->Bool
 | .bool _| .pointer _| .slice _ _ _| .func _ _ _| .nilFunc| .map _=>true
 |_=>false
theorem RF{op:BinOp}{neg:Bool}(MA:(op= .eql/\neg=false)\/(op= .neq/\neg=true))(t:TypeId)(ox oy:Operand){x y:Value}(hx:Value.I7 x=true)(hy:Value.I7 y=true){e:Bool}
  (he:(Op.equal t x y).run P w= .ok e w):(do eqGuard op t ox oy x y;binOp op t x y:Sem Value).run P w= .ok (.bool (e != neg)) w:=by
 have hg:eqGuard op t ox oy x y=pure ():=by rcases MA with⟨rfl,_⟩|⟨rfl,_⟩<;>cases x<;>simp[Value.I7] at hx<;>rfl
 rw[hg];rcases MA with⟨rfl,rfl⟩|⟨rfl,rfl⟩
 .have hb:binOp .eql t x y=(do pure (.bool (<-Op.equal t x y))):=by cases x<;>simp[Value.I7] at hx<;>cases y<;>simp[Value.I7] at hy<;>rfl
  simp[hb,he]
 .have hb:binOp .neq t x y=(do pure (.bool (!(<-Op.equal t x y)))):=by cases x<;>simp[Value.I7] at hx<;>cases y<;>simp[Value.I7] at hy<;>rfl
  simp[hb,he]
theorem ZX{op:BinOp}{neg:Bool}(MA:(op= .eql/\neg=false)\/(op= .neq/\neg=true))(t:TypeId)(ox oy:Operand)(ht:P.underlying t=some .bool)(a b:Bool):
  (do eqGuard op t ox oy (.bool a) (.bool b);binOp op t (.bool a) (.bool b):Sem Value).run P w= .ok (.bool ((a==b) != neg)) w:=
 RF MA t ox oy rfl rfl (run_equalIn_bool' w 9999 t a b ht)
theorem Tb{d:Nat}{t e:TypeId}(ht:P.underlying t=some (.pointer e))(hz:∃n,BP P e=some (n+1)){a b:Aa}{x y:Value}(hx:BF γ a x)(hy:BF γ b y){r:Bool}(h:ZM a b=some r):
  (Op.equalIn (d+1) t x y).run P w= .ok r w/\Value.I7 x=true/\Value.I7 y=true:=by
 obtain⟨n,hn⟩:=hz;unfold ZM at h;split at h
 .rename_i q;cases h;rw[show x= .pointer none from hx];have:∃p,y= .pointer p/\p.isNone=q.isNone:=by
   cases q with
   |none=>exact⟨none,hy,rfl⟩
   |some p=>obtain⟨i,o⟩:=p;obtain⟨b,_,rfl⟩:=hy;exact⟨_,rfl,rfl⟩
  obtain⟨p,rfl,hp⟩:=this;exact⟨by simp[Op.equalIn,run_underlying ht,hp],rfl,rfl⟩
 .rename_i p;cases h;obtain⟨i,o⟩:=p;obtain⟨b,_,rfl⟩:=hx;rw[show y= .pointer none from hy];exact⟨by simp[Op.equalIn,run_underlying ht],rfl,rfl⟩
 .rename_i p q;split at h;·rename_i he;cases h;subst he;obtain⟨i,o⟩:=p;obtain⟨b,hb,rfl⟩:=hx;obtain⟨b',Sw,rfl⟩:=hy;rw[hb] at Sw;cases Sw;exact⟨by simp[Op.equalIn,run_underlying ht,Dp hn,sameAddr],rfl,rfl⟩
  .cases h
 .cases h;rw[show x= .pointer none from hx];obtain⟨b,o,rfl,_⟩:=hy;exact⟨by simp[Op.equalIn,run_underlying ht],rfl,rfl⟩
 .cases h;rw[show y= .pointer none from hy];obtain⟨b,o,rfl,_⟩:=hx;exact⟨by simp[Op.equalIn,run_underlying ht],rfl,rfl⟩
 .cases h
theorem F7{d:Nat}{t e:TypeId}(ht:P.underlying t=some (.slice e)){p q:Option Addr}{n c m k:Nat}(h:p=none\/q=none):
  (Op.equalIn (d+1) t (.slice p n c) (.slice q m k)).run P w= .ok (p.isNone&&q.isNone) w:=by
 cases p<;>cases q<;>simp at h<;>simp[Op.equalIn,run_underlying ht]
theorem KZ{d:Nat}{t:TypeId}{a b:Array TypeId}{c:Bool}(ht:P.underlying t=some (.func a b c)){f:Fn}{x y:Array Value}:
  (Op.equalIn (d+1) t .nilFunc .nilFunc).run P w= .ok true w/\(Op.equalIn (d+1) t .nilFunc (.func f x y)).run P w= .ok false w/\(Op.equalIn (d+1) t (.func f x y) .nilFunc).run P w= .ok false w:=by
 refine⟨?_,?_,?_⟩<;>simp[Op.equalIn,run_underlying ht]
theorem Kr{d:Nat}{t k e:TypeId}(ht:P.underlying t=some (.map k e)){p q:Option Nat}(h:p=none\/q=none):
  (Op.equalIn (d+1) t (.map p) (.map q)).run P w= .ok (p.isNone&&q.isNone) w:=by
 cases p<;>cases q<;>simp at h<;>simp[Op.equalIn,run_underlying ht]
theorem Tc{d:Nat}{t:TypeId}{k:NK}(ht:match k with| .sl=>∃e,P.underlying t=some (.slice e)| .fn=>∃a b c,P.underlying t=some (.func a b c)| .mp=>∃a b,P.underlying t=some (.map a b))
  {a b:Aa} {x y:Value} (hx:BF γ a x) (hy:BF γ b y) {r:Bool} (h:kF k a b=some r):
  (Op.equalIn (d+1) t x y).run P w= .ok r w/\Value.I7 x=true/\Value.I7 y=true:=by
 unfold kF at h;split at h;case h_1=>obtain⟨e,ht⟩:=ht;cases h;rw[show x= .slice none 0 0 from hx,show y= .slice none 0 0 from hy];exact⟨F7 ht (.inl rfl),rfl,rfl⟩
 case h_2=>obtain⟨e,ht⟩:=ht;cases h;rw[show x= .slice none 0 0 from hx];obtain⟨_,_,rfl,_⟩:=hy;exact⟨F7 ht (.inl rfl),rfl,rfl⟩
 case h_3=>obtain⟨e,ht⟩:=ht;cases h;rw[show y= .slice none 0 0 from hy];obtain⟨_,_,rfl,_⟩:=hx;exact⟨F7 ht (.inr rfl),rfl,rfl⟩
 case h_4=>obtain⟨e,ht⟩:=ht;cases h;rw[show x= .slice none 0 0 from hx];obtain⟨_,_,_,rfl,_⟩:=hy;exact⟨F7 ht (.inl rfl),rfl,rfl⟩
 case h_5=>obtain⟨e,ht⟩:=ht;cases h;rw[show y= .slice none 0 0 from hy];obtain⟨_,_,_,rfl,_⟩:=hx;exact⟨F7 ht (.inr rfl),rfl,rfl⟩
 case h_6=>obtain⟨_,_,_,ht⟩:=ht;cases h;rw[show x= .nilFunc from hx,show y= .nilFunc from hy];exact⟨(KZ ht (f:= .func 0) (x:=#[]) (y:=#[])).1,rfl,rfl⟩
 case h_7=>obtain⟨_,_,_,ht⟩:=ht;cases h;rw[show x= .nilFunc from hx];obtain⟨_,_,rfl,_⟩:=hy;exact⟨(KZ ht).2.1,rfl,rfl⟩
 case h_8=>obtain⟨_,_,_,ht⟩:=ht;cases h;rw[show y= .nilFunc from hy];obtain⟨_,_,rfl,_⟩:=hx;exact⟨(KZ ht).2.2,rfl,rfl⟩
 case h_9=>
  rename_i q;obtain⟨_,_,ht⟩:=ht;cases h;rw[show x= .map none from hx];cases q with
  |none=>rw[show y= .map none from hy];exact⟨Kr ht (.inl rfl),rfl,rfl⟩
  |some id=>obtain⟨b,_,rfl⟩:=hy;exact⟨Kr ht (.inl rfl),rfl,rfl⟩
 case h_10=>obtain⟨_,_,ht⟩:=ht;cases h;rw[show y= .map none from hy];obtain⟨b,_,rfl⟩:=hx;exact⟨Kr ht (.inr rfl),rfl,rfl⟩
 .cases h
theorem qD{op:BinOp}{args:List Aa}{u:Aa}(h:Aw (.int op) args=some u):∃k a l b,args=[.int k a,.int l b]/\kE op k a l b=some u:=by
 simp only[Aw] at h;split at h;·exact⟨_,_,_,_,rfl,h⟩
 .cases h
theorem qE{op:BinOp}{args:List Aa}{u:Aa}(h:Aw (.str op) args=some u):∃a b,args=[.str a,.str b]/\ZL op a b=some u:=by
 simp only[Aw] at h;split at h;·exact⟨_,_,rfl,h⟩
 .cases h
theorem ZY{op:BinOp}{t:TypeId}{p:We}(hp:Ox P op t=some p)(ox oy:Operand){args:List Aa}{x y:Value}(ha:A8 γ args [x,y]){u:Aa}(h:Aw p args=some u):
  ∃v,(do eqGuard op t ox oy x y;binOp op t x y:Sem Value).run P w= .ok v w/\BF γ u v:=by
 unfold Ox at hp;split at hp;·cases hp;obtain⟨k,a,l,b,rfl,h⟩:=qD h;obtain⟨_,_,e,hx,hy⟩:=ha.ZW;cases e;rw[D3 hx,D3 hy];exact ZR t ox oy h
 .cases hp;obtain⟨a,b,rfl,h⟩:=qE h;obtain⟨_,_,e,hx,hy⟩:=ha.ZW;cases e;rw[MK hx,MK hy];exact ZS t ox oy h
 .rename_i d h1 h2 hu;obtain⟨neg,MA,hp'⟩:∃neg,((op= .eql/\neg=false)\/(op= .neq/\neg=true))/\Rw P t neg d=some p:=by cases op<;>first|cases hp;done|exact⟨false,.inl ⟨rfl,rfl⟩,hp⟩|exact⟨true,.inr ⟨rfl,rfl⟩,hp⟩
  clear h1 h2 hp;have hp:=hp';clear hp';unfold Rw at hp;split at hp
  .cases hp;simp only[Aw] at h;split at h;·obtain⟨_,_,e,hx,hy⟩:=ha.ZW;cases e;cases h;rw[Qy hx,Qy hy];exact⟨_,ZX MA t ox oy hu _ _,rfl⟩
   .cases h
  .split at hp
   .rename_i hg;cases hk:NJ P 20 t with
    |none=>rw[hk] at hp;cases hp
    |some ks=>
     rw[hk] at hp;cases hp;simp only[Aw] at h;split at h;·obtain⟨_,_,e,hx,hy⟩:=ha.ZW;cases e;exact ZV MA hg hk ⟨_,hu⟩ hx hy h
     .cases h
   .cases hp
  .split at hp;·cases hp
   .rename_i e hz;cases hp;simp only[Aw] at h;split at h
    .rename_i a b;obtain⟨_,_,e,hx,hy⟩:=ha.ZW;cases e;cases hq:ZM a b with
     |none=>rw[hq] at h;cases h
     |some r=>rw[hq] at h;cases h;obtain⟨p1,p2,p3⟩:=Tb (w:=w) (d:=9999) hu (by cases ZB:BP P e with|none=>rw[ZB] at hz;exact absurd rfl hz|some n=>cases n with|zero=>rw[ZB] at hz;exact absurd rfl hz|succ n=>exact⟨n,rfl⟩) hx hy hq;exact⟨_,RF MA t ox oy p2 p3 p1,rfl⟩
    .cases h
  all_goals first
   |cases hp;done
   | (cases hp
      simp only [Aw] at h
      split at h
      . rename_i a b
        obtain ⟨_, _, e, hx, hy⟩ := ha.ZW
        cases e
        cases hq : kF _ a b with
        | none => rw [hq] at h; cases h
        | some r =>
          rw [hq] at h; cases h
          obtain ⟨p1, p2, p3⟩ := Tc (w := w) (P := P) (t := t) (d := 9999) (by first | exact ⟨_, hu⟩ | exact ⟨_, _, hu⟩ | exact ⟨_, _, _, hu⟩) hx hy hq
          exact ⟨_, RF MA t ox oy p2 p3 p1, rfl⟩
      . cases h)
 .cases hp
end
end Go.Am
end
section
namespace Go.Am
open Go
section
variable{P:Program}{γ:Gh}{w:World}
theorem yn{op:UnOp}{a u:Aa}{x:Value}(hx:BF γ a x)(h:xw op a=some u):∃v,(Op.unary op x).run P w= .ok v w/\BF γ u v:=by
 unfold xw at h;split at h;·cases h;rw[Qy hx];exact⟨_,rfl,rfl⟩
 .cases h;rw[D3 hx];exact⟨_,rfl,rfl⟩
 .rename_i k n;rw[D3 hx];unfold td at h;cases hs:Ov (Op.unary .xor (.int k n)) with
  |none=>rw[hs] at h;cases h
  |some v=>
   rw[hs] at h;have e1:=Ut hs;simp only[Cs] at h;split at h;·cases h;exact⟨_,by rw[e1];rfl,rfl⟩
   .cases h
 .cases h
theorem X6{src dst:TypeId}{k l k':IntKind}{n:Int}(hs:P.underlying src=some (.int l))(hd:P.underlying dst=some (.int k)):(convert src dst (.int k' n)).run P w= .ok (.int k (k.wrap n)) w:=by simp[convert,run_underlying hs,run_underlying hd,Conv.intToInt]
theorem X7{src dst:TypeId}{l k':IntKind}{n:Int}(hs:P.underlying src=some (.int l))(hd:P.underlying dst=some .string):(convert src dst (.int k' n)).run P w= .ok (.string (Utf8.encode n)) w:=by simp[convert,run_underlying hs,run_underlying hd,Conv.intToString]
theorem qF{t:TypeId}{f off:Nat}{sh:Option Nat}(hf:HF P t f=some (off,sh)){cs:List Aa}{x:Value}(hx:BF γ (.agg cs) x){u:Aa}(h:EO cs off sh=some u):∃v,(Instr.field t x f).run P w= .ok v w/\BF γ u v:=by
 unfold HF at hf;split at hf
 .rename_i fs hu;split at hf
  .rename_i fd kP;split at hf;·rename_i n sh' h1 h2;cases hf;obtain⟨us,rfl,hr,h1c⟩:=hx;obtain⟨v,p,q⟩:=ZT (w:=w) h2 hr h1c h;exact⟨v,by simp[Instr.field,run_underlying hu,kP,asAgg,p],q⟩
   .cases hf
  .cases hf
 .cases hf
theorem PK{i:Int}{len j:Nat}(h:L4 i len=some j):0<=i/\i<len/\i.toNat=j:=by
 unfold L4 at h;split at h;·rename_i hc;cases h;exact⟨hc.1,hc.2,rfl⟩
 .cases h
theorem Wp{t e:TypeId}{len n:Nat}{sh:Option Nat}(ht:P.underlying t=some (.array len e))(hn:BP P e=some n)(dT:EN P e=some sh){cs:List Aa}{x:Value}(hx:BF γ (.agg cs) x){k:IntKind}{i:Int}{j:Nat}
  (hi:L4 i len=some j) {u:Aa} (h:EO cs (j*n) sh=some u):∃v,(Instr.index t x (.int k i)).run P w= .ok v w/\BF γ u v:=by
 obtain⟨us,rfl,hr,h1c⟩:=hx;obtain⟨p1,p2,p3⟩:=PK hi;obtain⟨v,p,q⟩:=ZT (w:=w) dT hr h1c h;exact⟨v,by simp[Instr.index,asIntOf,run_underlying ht,p1,p2,Dp hn,p3,p],q⟩
theorem Wq{t:TypeId}(ht:P.underlying t=some .string){s:As}{k:IntKind}{i:Int}{b:UInt8}(h0:0<=i)(h:s[i.toNat]?=some b):
  (Instr.index t (.string ⟨⟨s⟩⟩) (.int k i)).run P w= .ok (.int .u8 b.toNat) w:=by
 obtain⟨hlt,hb⟩:=Ah.1 h;have e:(⟨⟨s⟩⟩:ByteArray)[i.toNat]?=some b:=by rw[ByteArray.getElem?_lt' _ _ (show i.toNat<(⟨⟨s⟩⟩:ByteArray).size from hlt),<-hb];rfl
 simp[Instr.index,asIntOf,run_underlying ht,h0,e]
theorem kQ{p u:Aa}{x:Value}{n:Nat}(hx:BF γ p x)(h:WU p n=some u):∃a,x= .pointer (some a)/\BF γ u (.pointer (some (a.add n))):=by
 unfold WU at h;split at h;·rename_i cs;cases h;obtain⟨b,o,rfl,hm⟩:=hx;refine⟨_,rfl,b,o+n,?_,hm.drop n⟩;unfold Addr.add;split<;>simp_all
 .rename_i id o;cases h;obtain⟨b,hb,rfl⟩:=hx;refine⟨_,rfl,b,hb,?_⟩;unfold Addr.add;split<;>simp_all
 .cases h
theorem ZZ{t:TypeId}{f off:Nat}{sh:Option Nat}(hf:HF P t f=some (off,sh)){p u:Aa}{x:Value}(hx:BF γ p x)(h:WU p off=some u):∃v,(Instr.fieldAt t x f).run P w= .ok v w/\BF γ u v:=by
 obtain⟨a,rfl,hu⟩:=kQ hx h;refine⟨_,?_,hu⟩;unfold HF at hf;split at hf
 .rename_i fs kO;split at hf
  .rename_i fd kP;split at hf;·rename_i n sh' h1 h2;cases hf;simp[Instr.fieldAt,run_underlying kO,kP,Instr.sureAddr,fieldPlace,Dp h1]
   .cases hf
  .cases hf
 .cases hf
theorem eQ{t e:TypeId}{n:Nat}(ht:P.underlying t=some (.slice e))(hn:BP P e=some n){s u:Aa}{x:Value}(hx:BF γ s x){k:IntKind}{i:Int}(h:elemOf n s i=some u):
  ∃v,(Instr.indexAt t x (.int k i)).run P w= .ok v w/\BF γ u v:=by
 have FJ:P.underlying t=some (.slice (P.elem t)):=by simp[Program.elem,ht]
 have he:P.elem t=e:=by simp[Program.elem,ht]
 unfold elemOf at h;split at h
 .rename_i z Au;split at h
  .rename_i hz;subst hz;split at h
   .rename_i h0;cases hr:Au[i.toNat]? with
    |none=>rw[hr] at h;cases h
    |some row=>
     rw[hr] at h;cases h;obtain⟨ad,cap,rfl,hc,hsp,hm⟩:=hx;obtain⟨hl,hm'⟩:=hm.get hr;have hlt:i<Au.length:=by have:=(Ah.1 hr).1;omega
     have eR:=MG hsp hc (by omega);generalize ad.block=b at*;generalize ad.off=o at*;subst eR;refine⟨.pointer (some ((⟨b,o,none⟩:Addr).add (i.toNat*z))),by rw[run_indexAt_slice w t _ _ _ _ _ FJ,if_pos ⟨h0,hlt⟩,he,Dp hn];rfl,b,o+i.toNat*z,?_,hm'⟩;unfold Addr.add;split<;>simp_all
   .cases h
  .cases h
 .rename_i id off len z;split at h
  .rename_i hz;subst hz;cases hj:L4 i len with
   |none=>rw[hj] at h;cases h
   |some j=>rw[hj] at h;cases h;obtain⟨p1,p2,p3⟩:=PK hj;subst p3;obtain⟨b,cap,hb,rfl,hc,hz⟩:=hx;refine⟨.pointer (some ((⟨b,off,none⟩:Addr).add (i.toNat*z))),by rw[run_indexAt_slice w t _ _ _ _ _ FJ,if_pos ⟨p1,p2⟩,he,Dp hn];rfl,b,hb,?_⟩;unfold Addr.add;split<;>simp_all
  .cases h
 .cases h
theorem qG{t e:TypeId}{len n:Nat}(ht:P.underlying t=some (.array len e))(hn:BP P e=some n){p u:Aa}{x:Value}(hx:BF γ p x){k:IntKind}{i:Int}{j:Nat}(hj:L4 i len=some j)(h:WU p (j*n)=some u):
  ∃v,(Instr.indexAt t x (.int k i)).run P w= .ok v w/\BF γ u v:=by
 have FJ:P.underlying t=some (.array (P.arrayLen t) (P.elem t)):=by simp[Program.elem,Program.arrayLen,ht]
 have he:P.elem t=e:=by simp[Program.elem,ht]
 have hl:P.arrayLen t=len:=by simp[Program.arrayLen,ht]
 obtain⟨a,rfl,hu⟩:=kQ hx h;obtain⟨p1,p2,p3⟩:=PK hj;subst p3;exact⟨_,by rw[run_indexAt_array w t _ _ _ FJ,hl,if_pos ⟨p1,p2⟩,he,Dp hn];rfl,hu⟩
theorem ee{t ty:TypeId}{isStr:Bool}(ht:if isStr=true then P.underlying t=some .string else∃e,P.underlying t=some (.slice e)){ts:Array TypeId}(ZC:ts[0]?=some t){s u:Aa}{x:Value}(hx:BF γ s x)(h:lenOf isStr s=some u):
  ∃v,(Builtin.len_ ts ty #[x]).run P w= .ok v w/\BF γ u v:=by
 cases isStr with
 |true=>
  replace ht:P.underlying t=some .string:=ht;unfold lenOf at h;split at h<;>first|cases h;done|skip
  simp only[BN] at h;cases h;rw[MK hx];refine⟨_,by simp[Builtin.len_,ZC,run_underlying ht];rfl,rfl⟩
 |false=>
  obtain⟨e,ht⟩:∃e,P.underlying t=some (.slice e):=ht;unfold lenOf at h;split at h;·cases h;obtain⟨ad,cap,rfl,_⟩:=hx;exact⟨_,by simp[Builtin.len_,ZC,run_underlying ht];rfl,rfl⟩
  .cases h;obtain⟨b,cap,_,rfl,_⟩:=hx;exact⟨_,by simp[Builtin.len_,ZC,run_underlying ht];rfl,rfl⟩
  .cases h;rw[show x= .slice none 0 0 from hx];exact⟨_,by simp[Builtin.len_,ZC,run_underlying ht];rfl,rfl⟩
  .cases h
  .cases h
theorem eo{vs:List Aa}{x:Value}(hx:BF γ (.tuple vs) x){i:Nat}{u:Aa}(h:vs[i]?=some u):∃v,(Instr.extract x i).run P w= .ok v w/\BF γ u v:=by
 obtain⟨us,rfl,hr⟩:=hx;obtain⟨v,hv,q⟩:=hr.get h;exact⟨v,by
  have:us[i]?=some v:=by simpa using hv
  simp[Instr.extract,this],q⟩
end
end Go.Am
end
section
namespace Go.Am
open Go
section
variable{P:Program}{γ:Gh}{w:World}
theorem ML{n:Int}{top j:Nat}(h:EK n top=some j):0<=n/\n<=top/\n.toNat=j:=by
 unfold EK at h;split at h;·rename_i hc;cases h;exact⟨hc.1,hc.2,rfl⟩
 .cases h
theorem Jy{lo hi:Option Value}{as:List Aa}{len cap l h:Nat}{isSlice:Bool}(hb:DH lo.isSome hi.isSome len as=some (l,h))(hr:A8 γ as (lo.toList++hi.toList))(hc:len<=cap):
  (Instr.sliceBounds isSlice len cap lo hi none).run P w= .ok (l,h,cap) w/\l<=h/\h<=len:=by
 cases lo<;>cases hi<;>simp only[Option.isSome,DH] at hb
 .split at hb;·cases hb;exact⟨by simp[Instr.sliceBounds],AO _,Ac _⟩
  .cases hb
 .rename_i hv;split at hb
  .rename_i k h';cases hh:EK h' len with
   |none=>rw[hh] at hb;cases hb
   |some j=>
    rw[hh] at hb;cases hb;obtain⟨p1,p2,p3⟩:=ML hh;obtain⟨_,e,hx⟩:=hr.one;cases e;rw[D3 hx];refine⟨?_,AO _,by omega⟩;have:h'<=(cap:Int):=by omega
    simp[Instr.sliceBounds,run_sliceBound,p1,this,p3]
  .cases hb
 .rename_i lv;split at hb
  .rename_i k l';cases hh:EK l' len with
   |none=>rw[hh] at hb;cases hb
   |some j=>rw[hh] at hb;cases hb;obtain⟨p1,p2,p3⟩:=ML hh;obtain⟨_,e,hx⟩:=hr.one;cases e;rw[D3 hx];refine⟨?_,by omega,Ac _⟩;simp[Instr.sliceBounds,run_sliceBound,p1,p2,p3]
  .cases hb
 .rename_i lv hv;split at hb
  .rename_i k l' k' h';cases hh:EK h' len with
   |none=>rw[hh] at hb;cases hb
   |some j=>
    rw[hh] at hb;simp only[Cs] at hb;cases hh':EK l' j with
    |none=>rw[hh'] at hb;cases hb
    |some i=>
     rw[hh'] at hb;cases hb;obtain⟨p1,p2,p3⟩:=ML hh;obtain⟨q1,q2,q3⟩:=ML hh';obtain⟨_,_,e,hx,hy⟩:=hr.ZW;cases e;rw[D3 hx,D3 hy];refine⟨?_,by omega,by omega⟩;have:h'<=(cap:Int):=by omega
     simp[Instr.sliceBounds,run_sliceBound,p1,this,q1,p3,q3,q2]
  .cases hb
theorem ER.slice{Au:List (List Aa)}{z b o:Nat}(h:ER γ Au z b o)(l k:Nat):ER γ ((Au.take k).drop l) z b (o+l*z):=by
 refine ER.Gk λi r hi=>?_;rw[Cz,Cg] at hi;split at hi;·obtain⟨p,q⟩:=h.get hi;exact⟨p,by rw[show o+l*z+i*z=o+(l+i)*z by rw[BA];omega];exact q⟩
 .cases hi
theorem et{t:TypeId}{isStr:Bool}{size:Nat}(ht:if isStr=true then P.underlying t=some .string else∃e,P.underlying t=some (.slice e)/\BP P e=some size){s u:Aa}{x:Value}(hx:BF γ s x){as:List Aa}{lo hi:Option Value}
  (hr:A8 γ as (lo.toList++hi.toList)) (h:I4 size isStr lo.isSome hi.isSome s as=some u):
  ∃v,(Instr.sliceAt t x lo hi none).run P w= .ok v w/\BF γ u v:=by
 unfold I4 at h;split at h
 .split at h
  .rename_i s O0;subst O0;replace ht:P.underlying t=some .string:=ht;cases hb:DH lo.isSome hi.isSome s.length as with
   |none=>rw[hb] at h;cases h
   |some lh=>
    obtain⟨l,k⟩:=lh;rw[hb] at h;cases h;obtain⟨p1,p2,p3⟩:=Jy (P:=P) (w:=w) (isSlice:=false) hb hr (Ac _);rw[MK hx,run_sliceAt_string w t _ _ _ _ ht];refine⟨.string ((⟨⟨s⟩⟩:ByteArray).extract l k),?_,?_⟩;·have e:(⟨⟨s⟩⟩:ByteArray).size=s.length:=rfl;simp only[Instr.slice,Sem.run_bind,run_underlying ht,Result.andThen_ok];simp only[e,p1,Option.isSome,C2,Ea,Sem.run_bind,Sem.run_pure,Result.andThen_ok]
    .show Value.string _=Value.string _;congr 1
     apply ByteArray.ext;apply Jf;simp[ByteArray.data_extract,MD,List.drop_take]
  .cases h
 .rename_i z Au;split at h
  .rename_i hc;obtain⟨rfl,rfl⟩:=hc;obtain⟨e,ht,hn⟩:∃e,P.underlying t=some (.slice e)/\BP P e=some z:=ht;have FJ:P.underlying t=some (.slice (P.elem t)):=by simp[Program.elem,ht]
   have he:P.elem t=e:=by simp[Program.elem,ht]
   obtain⟨ad,cap,rfl,hc,hsp,hm⟩:=hx;cases hb:DH lo.isSome hi.isSome Au.length as with
   |none=>rw[hb] at h;cases h
   |some lh=>
    obtain⟨l,k⟩:=lh;rw[hb] at h;cases h;obtain⟨p1,p2,p3⟩:=Jy (P:=P) (w:=w) (isSlice:=true) hb hr hc;rw[run_sliceAt_slice w t _ _ _ _ FJ,run_slice_any w t _ _ _ FJ,p1,he,Result.andThen_ok,Dp hn];refine⟨_,rfl,?_⟩;show BF γ (.sl z ((Au.take k).drop l)) (.slice (if cap=l then some ad else Option.map (λq:Addr=>q.add (l*z)) (some ad)) (k-l) (cap-l));have hlen:((Au.take k).drop l).length=k-l:=by simp;omega
    by_cases hcl:cap=l;·have:(Au.take k).drop l=[]:=EW (by omega);rw[this];simp only[hcl,BN];exact⟨ad,l-l,by simp;omega,by simp,.inr (by omega),trivial⟩
    .rw[if_neg hcl];have eR:ad=⟨ad.block,ad.off,none⟩:=by
      rcases hsp with hsp|hsp
      .cases ad;simp_all
      .omega
     generalize ad.block=b at*;generalize ad.off=o at*;subst eR;refine⟨⟨b,o+l*z,none⟩,cap-l,?_,by omega,.inl rfl,hm.slice l k⟩;rw[hlen];simp only[BR];unfold Addr.add;split<;>simp_all
  .cases h
 .rename_i id off n z;split at h
  .rename_i hc;obtain⟨rfl,rfl⟩:=hc;obtain⟨e,ht,hn⟩:∃e,P.underlying t=some (.slice e)/\BP P e=some z:=ht;have FJ:P.underlying t=some (.slice (P.elem t)):=by simp[Program.elem,ht]
   have he:P.elem t=e:=by simp[Program.elem,ht]
   obtain⟨b,cap,ew,rfl,hc,hz,hsz⟩:=hx;cases hb:DH lo.isSome hi.isSome n as with
   |none=>rw[hb] at h;cases h
   |some lh=>
    obtain⟨l,k⟩:=lh;rw[hb] at h;simp only[Cs] at h;split at h
    .rename_i eS;cases h;obtain⟨p1,p2,p3⟩:=Jy (P:=P) (w:=w) (isSlice:=true) hb hr hc;rw[run_sliceAt_slice w t _ _ _ _ FJ,run_slice_any w t _ _ _ FJ,p1,he,Result.andThen_ok,Dp hn];refine⟨_,rfl,b,cap-l,ew,?_,by omega,⟨hz.1,Bt (Nat.sub_le _ _) hz.2⟩,?_⟩;·show Value.slice (if cap=l then some ⟨b,off,none⟩ else Option.map (λq:Addr=>q.add (l*z)) (some ⟨b,off,none⟩)) (k-l) (cap-l)=_;rw[if_neg (by omega)];simp only[BR];unfold Addr.add;split<;>simp_all
     .rw[hsz,Nat.add_assoc,<-BA,Nat.add_sub_cancel' (by omega)]
    .rename_i eS;cases h;obtain⟨p1,p2,p3⟩:=Jy (P:=P) (w:=w) (isSlice:=true) hb hr hc;rw[run_sliceAt_slice w t _ _ _ _ FJ,run_slice_any w t _ _ _ FJ,p1,he,Result.andThen_ok,Dp hn];have Oz:k-l=0:=by omega
     by_cases hcl:cap=l;·refine⟨_,rfl,⟨b,off,none⟩,cap-l,?_,by simp,.inl rfl,trivial⟩;show Value.slice (if cap=l then some ⟨b,off,none⟩ else Option.map (λq:Addr=>q.add (l*z)) (some ⟨b,off,none⟩)) (k-l) (cap-l)=_;rw[if_pos hcl,Oz];rfl
     .refine⟨_,rfl,(Addr.mk b off none).add (l*z),cap-l,?_,by simp,.inl ?_,trivial⟩;·show Value.slice (if cap=l then some ⟨b,off,none⟩ else Option.map (λq:Addr=>q.add (l*z)) (some ⟨b,off,none⟩)) (k-l) (cap-l)=_;rw[if_neg hcl,Oz];rfl
      .unfold Addr.add;split<;>simp_all
  .cases h
 .split at h;·cases h
  .rename_i O0;have O0:isStr=false:=by simpa using O0
   subst O0;obtain⟨e,ht,hn⟩:∃e,P.underlying t=some (.slice e)/\BP P e=some size:=ht;have FJ:P.underlying t=some (.slice (P.elem t)):=by simp[Program.elem,ht]
   have he:P.elem t=e:=by simp[Program.elem,ht]
   rw[show x= .slice none 0 0 from hx];cases hb:DH lo.isSome hi.isSome 0 as with
   |none=>rw[hb] at h;cases h
   |some lh=>
    obtain⟨l,k⟩:=lh;rw[hb] at h;cases h;obtain⟨p1,p2,p3⟩:=Jy (P:=P) (w:=w) (isSlice:=true) hb hr (Ac _);rw[run_sliceAt_slice w t _ _ _ _ FJ,run_slice_any w t _ _ _ FJ,p1,he,Result.andThen_ok,Dp hn];refine⟨_,rfl,?_⟩;have:l=0:=by omega
    subst this;have:k=0:=by omega
    subst this;rfl
 .cases h
end
end Go.Am
end
section
namespace Go.Am
open Go
section
variable{P:Program}{γ:Gh}{w:World}
theorem Gx{a:Aa}{v:Value}(h:BF γ a v)(hn:0<a.cells.length):A8 γ a.cells v.cells.toList/\∀u∈v.cells.toList,u.oneCell'=true:=by
 cases a with
 |agg cs=>obtain⟨us,rfl,p,q⟩:=h;exact⟨p,q⟩
 |tuple vs=>exact absurd hn (by simp[Aa.cells])
 |bool b=>rw[show v=_ from h];exact⟨⟨_,[],rfl,rfl,rfl⟩,by simp[Value.cells,Value.oneCell']⟩
 |int k n=>rw[show v=_ from h];exact⟨⟨_,[],rfl,rfl,rfl⟩,by simp[Value.cells,Value.oneCell']⟩
 |str s=>rw[show v=_ from h];exact⟨⟨_,[],rfl,rfl,rfl⟩,by simp[Value.cells,Value.oneCell']⟩
 |slnil=>rw[show v=_ from h];exact⟨⟨_,[],rfl,rfl,rfl⟩,by simp[Value.cells,Value.oneCell']⟩
 |nilFunc=>rw[show v=_ from h];exact⟨⟨_,[],rfl,rfl,rfl⟩,by simp[Value.cells,Value.oneCell']⟩
 |nilIface=>rw[show v=_ from h];exact⟨⟨_,[],rfl,rfl,rfl⟩,by simp[Value.cells,Value.oneCell']⟩
 |ptr p=>
  have h0:=h;cases p with
  |none=>rw[show v=_ from h];exact⟨⟨_,[],rfl,rfl,rfl⟩,by simp[Value.cells,Value.oneCell']⟩
  |some p=>obtain⟨i,o⟩:=p;obtain⟨b,_,rfl⟩:=h;exact⟨⟨_,[],rfl,h0,rfl⟩,by simp[Value.cells,Value.oneCell']⟩
 |CA cs=>have h0:=h;obtain⟨b,o,rfl,_⟩:=h;exact⟨⟨_,[],rfl,h0,rfl⟩,by simp[Value.cells,Value.oneCell']⟩
 |sl z Au=>have h0:=h;obtain⟨ad,cap,rfl,_⟩:=h;exact⟨⟨_,[],rfl,h0,rfl⟩,by simp[Value.cells,Value.oneCell']⟩
 |Cm id off len z=>have h0:=h;obtain⟨b,cap,_,rfl,_⟩:=h;exact⟨⟨_,[],rfl,h0,rfl⟩,by simp[Value.cells,Value.oneCell']⟩
 |map m=>
  have h0:=h;cases m with
  |none=>rw[show v=_ from h];exact⟨⟨_,[],rfl,rfl,rfl⟩,by simp[Value.cells,Value.oneCell']⟩
  |some id=>obtain⟨b,_,rfl⟩:=h;exact⟨⟨_,[],rfl,h0,rfl⟩,by simp[Value.cells,Value.oneCell']⟩
 |func fn f c=>have h0:=h;obtain⟨fs,cs,rfl,_⟩:=h;exact⟨⟨_,[],rfl,h0,rfl⟩,by simp[Value.cells,Value.oneCell']⟩
 |iface t a=>have h0:=h;obtain⟨u,rfl,_⟩:=h;exact⟨⟨_,[],rfl,h0,rfl⟩,by simp[Value.cells,Value.oneCell']⟩
theorem MM:∀(vs:List Value) (off j:Nat) (cells:Array Value),off+j+vs.length<=cells.size->
  (vs.zipIdx j).foldl (λcs (c,i)=>cs.setIfInBounds (off+i) c) cells=(cells.toList.take (off+j)++vs++cells.toList.drop (off+j+vs.length)).toArray
 |[],off,j,cells,h=>by simp
 |v::vs,off,j,cells,h=>by
  simp only[List.zipIdx_cons,List.foldl_cons];rw[MM vs off (j+1) _ (by simp at h⊢;omega)];simp only[Bc] at h;have hk:off+j<cells.toList.length:=by simp;omega
  have e0:(cells.setIfInBounds (off+j) v).toList=cells.toList.set (off+j) v:=by simp
  have e1:(cells.toList.set (off+j) v).take (off+j+1)=cells.toList.take (off+j)++[v]:=by rw[List.take_add_one,aIj (Ac _),AN hk];rfl
  have e2:(cells.toList.set (off+j) v).drop (off+j+1+vs.length)=cells.toList.drop (off+j+1+vs.length):=List.drop_set_of_lt (by omega);rw[e0,show off+(j+1)=off+j+1 by omega,e1,e2];rw[show off+j+(v::vs).length=off+j+1+vs.length by simp;omega];simp
theorem Uw{place:Nat->Option (Nat×Nat)}:∀{places:List (Nat×Nat)} {as:List Aa} {parts:List (Nat×Value)} {cs:List Aa} {us:Array Value} {Gf:List Aa},AI cs (places.zip as)=some Gf->places.length=as.length->
  parts.map (λp=>place p.1)=places.map some->A8 γ as (parts.map (·.2))->A8 γ cs us.toList->(∀u∈us.toList,u.oneCell'=true)->
  ∃Dk,Instr.fill place us parts=some Dk/\A8 γ Gf Dk.toList/\∀u∈Dk.toList,u.oneCell'=true
 |[],as,parts,cs,us,Gf,h,hl,hp,ha,hr,h1=>by
  have:parts=[]:=by simpa using hp
  subst this;simp only[List.zip_nil_left,AI] at h;cases h;exact⟨us,rfl,hr,h1⟩
 |(off,size)::places,[],parts,cs,us,Gf,h,hl,hp,ha,hr,h1=>by simp at hl
 |(off,size)::places,a::as,[],cs,us,Gf,h,hl,hp,ha,hr,h1=>by simp at hp
 |(off,size)::places,a::as,(i,v)::parts,cs,us,Gf,h,hl,hp,ha,hr,h1=>by
  simp only[List.zip_cons_cons,AI] at h;split at h
  .rename_i hc;obtain⟨c1,c2,c3⟩:=hc;simp only[Bl,Hr] at hp;obtain⟨_,_,e,Wr,yo⟩:=ha.KY;simp only[Bl,Hr] at e;obtain⟨e1,e2⟩:=e;subst e1;subst e2;obtain⟨q1,q2⟩:=Gx Wr (by omega);have hsz:v.cells.size=size:=by have:=q1.length;simp at this;omega
   have WW:us.size=cs.length:=by have:=hr.length;simpa using this
   have hf:=MM v.cells.toList off 0 us (by simp[hsz];omega);obtain⟨Dk,r1,r2,r3⟩:=Uw (place:=place) (us:=(us.toList.take off++v.cells.toList++us.toList.drop (off+size)).toArray) h (by simpa using hl) hp.2 yo
    (by simpa using((hr.take off).append q1).append (hr.drop (off+size)))
    (λu hu=>by
     simp only[Ao] at hu;rcases hu with(hu|hu)|hu
     .exact h1 u (Bf hu)
     .exact q2 u hu
     .exact h1 u (Bw hu))
   refine⟨Dk,?_,r2,r3⟩;rw[Instr.fill];simp only[hp.1];rw[if_neg (by simp[hsz];omega)];rw[<-r1];congr 1
   have e5:v.cells.toList.length=size:=by simpa using hsz
   rw[<-Array.foldl_toList,Array.toList_zipIdx,hf];simp[e5]
  .cases h
theorem Ws{v:Value}{a:Aa}(h:JP v=some a):A8 γ a.cells v.cells.toList/\∀u∈v.cells.toList,u.oneCell'=true:=by
 have hr:=ES (γ:=γ) h;unfold JP at h;split at h
 .rename_i cs;cases hs:KK cs.toList with
  |none=>rw[hs] at h;cases h
  |some as=>rw[hs] at h;cases h;exact LR hs
 .refine Gx hr ?_;unfold NH at h;split at h<;>first|(cases h;simp[Aa.cells];done)|skip
  .split at h;·cases h;simp[Aa.cells]
   .cases h
  .cases h
theorem Nh{t:TypeId}{fs:Array Field}(hu:P.underlying t=some (.struct fs)){place:Nat->Option (Nat×Nat)}(ZD:∀(i:Nat) (f:Field) (n:Nat),fs[i]?=some f->BP P f.type=some n->place i=some (f.offset,n)):
  ∀{parts:List (Nat×Operand)} {ps:List (Nat×Nat)},I6 P t parts=some ps->parts.map (λp=>place p.1)=ps.map some
 |[],ps,h=>by cases h;rfl
 |(i,x)::rest,ps,h=>by
  simp only[I6,hu] at h;split at h
  .rename_i f hf;split at h;·rename_i n r h1 h2;cases h;simp[ZD i f n hf h1,Nh hu ZD h2]
   .cases h
  .cases h
theorem NQ{t e:TypeId}{len n:Nat}(hu:P.underlying t=some (.array len e))(hn:BP P e=some n):
  ∀{parts:List (Nat×Operand)} {ps:List (Nat×Nat)},I6 P t parts=some ps->parts.map (λp=>some (p.1*n,n))=ps.map some
 |[],ps,h=>by cases h;rfl
 |(i,x)::rest,ps,h=>by
  simp only[I6,hu] at h;split at h
  .split at h;·rename_i n' r h1 h2;cases h;rw[hn] at h1;cases h1;simp[NQ hu hn h2]
   .cases h
  .cases h
theorem Sy:∀(fs:List Field),(fs.all λf=>(BP P f.type).isSome)=true->∃places,fs.mapM (λf=>(P.info? f.type).map λi=>(f.offset,i.size))=some places/\
  ∀(i:Nat) (f:Field) (n:Nat),fs[i]?=some f->BP P f.type=some n->places[i]?=some (f.offset,n)
 |[],_=>⟨[],rfl,by simp⟩
 |f::fs,h=>by
  simp only[List.all_cons,BK] at h;obtain⟨rest,h1,h2⟩:=Sy fs h.2;cases hi:P.info? f.type with
  |none=>simp[BP,hi] at h
  |some ti=>
   refine⟨(f.offset,ti.size)::rest,by simp[hi,h1],λi g n hg hn=>?_⟩;cases i with
   |zero=>simp at hg;subst hg;simp[BP,hi] at hn;simp[hn]
   |succ i=>simpa using h2 i g n (by simpa using hg) hn
theorem qH{t:TypeId}{z:Aa}{parts:Array (Nat×Operand)}{ps:List (Nat×Nat)}{ρ:Operand->Value}(hz:GN P t=some z)(hp:I6 P t parts.toList=some ps)(hb:TM P t=true){as:List Aa}
  (ha:A8 γ as ((parts.toList.map (·.2)).map ρ)) {u:Aa} (h:Aw (.Br z.cells ps) as=some u):∃v,(Instr.build t (parts.map λ(i,x)=>(i,ρ x))).run P w= .ok v w/\BF γ u v:=by
 simp only[Aw] at h;split at h
 .rename_i hl;cases hf:AI z.cells (ps.zip as) with
  |none=>rw[hf] at h;cases h
  |some cs=>
   rw[hf] at h;cases h;unfold GN at hz;cases hi:P.info? t with
   |none=>rw[hi] at hz;cases hz
   |some ti=>
    cases ZB:ti.zero with
    |none=>rw[hi] at hz;simp[ZB] at hz
    |some zv=>
     rw[hi] at hz;simp only[Cs,ZB] at hz;obtain⟨z1,z2⟩:=Ws (γ:=γ) hz;have hparts:((parts.map λ(i,x)=>(i,ρ x)).toList.map (·.2))=(parts.toList.map (·.2)).map ρ:=by simp
     unfold TM at hb;split at hb
     .rename_i fs hu;obtain⟨places,m1,m2⟩:=Sy fs.toList hb;obtain⟨Dk,f1,f2,f3⟩:=Uw (place:=λi=>places.toArray[i]?) (parts:=(parts.map λ(i,x)=>(i,ρ x)).toList) hf hl
       (by have:=Nh hu (place:=λi=>places.toArray[i]?) (λi f n h1 h2=>by simpa using m2 i f n (by simpa using h1) h2) hp;rw[<-this];simp) (by rw[hparts];exact ha) z1 z2
      exact⟨.agg Dk,run_build w t _ _ (by unfold Program.built;simp only[hi,hu,ZB,m1];exact f1),Dk,rfl,f2,f3⟩
     .rename_i len e hu;cases he:P.info? e with
      |none=>simp[BP,he] at hb
      |some ei=>
       obtain⟨Dk,f1,f2,f3⟩:=Uw (place:=λi=>some (i*ei.size,ei.size)) (parts:=(parts.map λ(i,x)=>(i,ρ x)).toList) hf hl
        (by have:=NQ hu (n:=ei.size) (by simp[BP,he]) hp;rw[<-this];simp) (by rw[hparts];exact ha) z1 z2
       exact⟨.agg Dk,run_build w t _ _ (by unfold Program.built;simp only[hi,hu,ZB,he];exact f1),Dk,rfl,f2,f3⟩
     .cases hb
 .cases h
end
end Go.Am
end
section
namespace Go.Am
open Go
def We.still:We->Bool
 | .append _ _| .By _| .s2b| .S7=>false
 |_=>true
theorem Hc{o:uD}{dst:Option Nat}{x:Option (List Aa)}{r:Er}(h:S8 o dst x=some r):∃args,x=some args/\r= .mem o args dst:=by
 unfold S8 at h;split at h;·cases h;exact⟨_,rfl,rfl⟩
 .cases h
theorem J2{o:uD}{dst:Option Nat}{x:Option (List Aa)}{p:We}{args:List Aa}{d:Option Nat}{own:Bool}{dem:Option (Nat×Aa)}:¬S8 o dst x=some (.op p args d own dem):=λh=>by obtain⟨_,_,e⟩:=Hc h;cases e
theorem Dy{p:We}{dst:Option Nat}{x:Option (List Aa)}{r:Er}(h:Rx p dst x=some r):∃args,x=some args/\r= .op p args dst false none:=by
 cases x with
 |none=>cases h
 |some args=>cases h;exact⟨args,rfl,rfl⟩
section
variable{C:FI}{γ0 γ:Gh}{w0 w:World}{β:Nat->Nat}{σ:BD}{h:Ae}{a:Act}{fid:FuncId}{ops:List Oper}
def Hk(P:Program)(γ:Gh)(a:Act)(o:Oper)(w:World)(p:We)(args:List Aa):Prop:=
 ∀u,Aw p args=some u->∃v,(execOp a.eval o).run P w= .ok (.value v) w/\BF γ u v
theorem El{P:Program}{s:Sem Value}{v:Value}(hs:s.run P w= .ok v w):(do pure (Next.value (<-s)):Sem Next).run P w= .ok (.value v) w:=by simp[hs]
theorem eT{o:Oper}{c x y:Operand}(ho:o.op= .pick c x y)(hr:CS C γ0 w0 γ β σ h a w){args:List Aa}(ha:Bq C σ [c,x,y]=some args):Hk C.P γ a o w .pick args:=by
 intro u hu;simp only[Aw] at hu;split at hu;·rename_i b p q;cases hu;obtain⟨_,_,_,e,h1,h2,h3⟩:=(Dx hr ha).Sx;simp only[Bl,DQ,Hr] at e;obtain⟨e1,e2,e3,_⟩:=e;rw[<-e1] at h1;rw[<-e2] at h2;rw[<-e3] at h3;refine⟨if b then a.eval x else a.eval y,?_,by cases b<;>simpa⟩;simp[execOp,ho,Qy h1,asBool]
 .cases hu
theorem qI{o:Oper}{op:BinOp}{t:TypeId}{x y:Operand}{p:We}(hp:Ox C.P op t=some p)(he:execOp a.eval o=(do pure (Next.value (<-(do eqGuard op t x y (a.eval x) (a.eval y);binOp op t (a.eval x) (a.eval y):Sem Value)))))
  (hr:CS C γ0 w0 γ β σ h a w) {args:List Aa} (ha:Bq C σ [x,y]=some args):Hk C.P γ a o w p args:=by
 intro u hu;obtain⟨v,p1,p2⟩:=ZY (w:=w) hp x y (Dx hr ha) hu;exact⟨v,by rw[he];exact El p1,p2⟩
theorem F8(hr:CS C γ0 w0 γ β σ h a w){x:Operand}{args:List Aa}(ha:Bq C σ [x]=some args):∃u,args=[u]/\BF γ u (a.eval x):=by
 have h1:=Dx hr ha;cases args with
 |nil=>cases h1
 |cons u us=>
  obtain⟨_,_,e,h2,h3⟩:=h1.KY;cases e;cases us with
  |nil=>exact⟨u,rfl,h2⟩
  |cons _ _=>obtain⟨_,_,e,_⟩:=h3.KY;cases e
theorem Fc(hr:CS C γ0 w0 γ β σ h a w){x y:Operand}{args:List Aa}(ha:Bq C σ [x,y]=some args):∃u v,args=[u,v]/\BF γ u (a.eval x)/\BF γ v (a.eval y):=by
 have h1:=Dx hr ha;cases args with
 |nil=>cases h1
 |cons u us=>
  obtain⟨_,_,e,h2,h3⟩:=h1.KY;cases e;cases us with
  |nil=>cases h3
  |cons v vs=>
   obtain⟨_,_,e,h4,h5⟩:=h3.KY;cases e;cases vs with
   |nil=>exact⟨u,v,rfl,h2,h4⟩
   |cons _ _=>obtain⟨_,_,e,_⟩:=h5.KY;cases e
theorem uW{o:Oper}{op:UnOp}{x:Operand}(he:execOp a.eval o=(do pure (Next.value (<-Op.unary op (a.eval x)))))
  (hr:CS C γ0 w0 γ β σ h a w) {args:List Aa} (ha:Bq C σ [x]=some args):Hk C.P γ a o w (.un op) args:=by
 intro u hu;obtain⟨v,rfl,h1⟩:=F8 hr ha;simp only[Aw] at hu;obtain⟨r,p1,p2⟩:=yn (P:=C.P) (w:=w) h1 hu;exact⟨r,by rw[he];exact El p1,p2⟩
theorem eU{o:Oper}{src dst:TypeId}{k l:IntKind}{x:Operand}(hs:C.P.underlying src=some (.int l))(hd:C.P.underlying dst=some (.int k))(he:execOp a.eval o=(do pure (Next.value (<-convert src dst (a.eval x)))))
  (hr:CS C γ0 w0 γ β σ h a w) {args:List Aa} (ha:Bq C σ [x]=some args):Hk C.P γ a o w (.conv k) args:=by
 intro u hu;obtain⟨v,rfl,h1⟩:=F8 hr ha;simp only[Aw] at hu;split at hu;·rename_i e;cases e;cases hu;rw[D3 h1] at he;exact⟨_,by rw[he];exact El (X6 hs hd),rfl⟩
 .cases hu
theorem qJ{o:Oper}{src dst:TypeId}{l:IntKind}{x:Operand}(hs:C.P.underlying src=some (.int l))(hd:C.P.underlying dst=some .string)(he:execOp a.eval o=(do pure (Next.value (<-convert src dst (a.eval x)))))
  (hr:CS C γ0 w0 γ β σ h a w) {args:List Aa} (ha:Bq C σ [x]=some args):Hk C.P γ a o w .i2s args:=by
 intro u hu;obtain⟨v,rfl,h1⟩:=F8 hr ha;simp only[Aw] at hu;split at hu;·rename_i e;cases e;cases hu;rw[D3 h1] at he;exact⟨_,by rw[he];exact El (X7 hs hd),rfl⟩
 .cases hu
theorem Z0{o:Oper}{t:TypeId}{x:Operand}{f off:Nat}{sh:Option Nat}(hf:HF C.P t f=some (off,sh))(he:execOp a.eval o=(do pure (Next.value (<-Instr.field t (a.eval x) f))))
  (hr:CS C γ0 w0 γ β σ h a w) {args:List Aa} (ha:Bq C σ [x]=some args):Hk C.P γ a o w (.part off sh) args:=by
 intro u hu;obtain⟨v,rfl,h1⟩:=F8 hr ha;simp only[Aw] at hu;split at hu;·rename_i e;cases e;obtain⟨r,p1,p2⟩:=qF (w:=w) hf h1 hu;exact⟨r,by rw[he];exact El p1,p2⟩
 .cases hu
theorem Td{o:Oper}{t:TypeId}{x:Operand}{f off:Nat}{sh:Option Nat}(hf:HF C.P t f=some (off,sh))(he:execOp a.eval o=(do pure (Next.value (<-Instr.fieldAt t (a.eval x) f))))
  (hr:CS C γ0 w0 γ β σ h a w) {args:List Aa} (ha:Bq C σ [x]=some args):Hk C.P γ a o w (.D8 off) args:=by
 intro u hu;obtain⟨v,rfl,h1⟩:=F8 hr ha;simp only[Aw] at hu;obtain⟨r,p1,p2⟩:=ZZ (w:=w) hf h1 hu;exact⟨r,by rw[he];exact El p1,p2⟩
theorem qK{o:Oper}{x:Operand}{i:Nat}(he:execOp a.eval o=(do pure (Next.value (<-Instr.extract (a.eval x) i))))
  (hr:CS C γ0 w0 γ β σ h a w) {args:List Aa} (ha:Bq C σ [x]=some args):Hk C.P γ a o w (.ext i) args:=by
 intro u hu;obtain⟨v,rfl,h1⟩:=F8 hr ha;simp only[Aw] at hu;split at hu;·rename_i e;cases e;obtain⟨r,p1,p2⟩:=eo (P:=C.P) (w:=w) h1 hu;exact⟨r,by rw[he];exact El p1,p2⟩
 .cases hu
theorem Te{o:Oper}{t:TypeId}{x y:Operand}(ht:C.P.underlying t=some .string)(he:execOp a.eval o=(do pure (Next.value (<-Instr.index t (a.eval x) (a.eval y)))))
  (hr:CS C γ0 w0 γ β σ h a w) {args:List Aa} (ha:Bq C σ [x,y]=some args):Hk C.P γ a o w .Rv args:=by
 intro u hu;obtain⟨p,q,rfl,h1,h2⟩:=Fc hr ha;simp only[Aw] at hu;split at hu
 .rename_i e;cases e;split at hu
  .rename_i s k i h0;cases hb:s[i.toNat]? with
   |none=>rw[hb] at hu;cases hu
   |some b=>rw[hb] at hu;cases hu;rw[MK h1,D3 h2] at he;exact⟨_,by rw[he];exact El (Wq ht h0 hb),rfl⟩
  .cases hu
 .cases hu
theorem Tf{o:Oper}{t e:TypeId}{len n:Nat}{sh:Option Nat}{x y:Operand}(ht:C.P.underlying t=some (.array len e))(hn:BP C.P e=some n)(dT:EN C.P e=some sh)(he:execOp a.eval o=(do pure (Next.value (<-Instr.index t (a.eval x) (a.eval y)))))
  (hr:CS C γ0 w0 γ β σ h a w) {args:List Aa} (ha:Bq C σ [x,y]=some args):Hk C.P γ a o w (.xu len n sh) args:=by
 intro u hu;obtain⟨p,q,rfl,h1,h2⟩:=Fc hr ha;simp only[Aw] at hu;split at hu
 .rename_i e;cases e;rename_i cs k i;cases hb:L4 i len with
  |none=>rw[hb] at hu;cases hu
  |some j=>rw[hb] at hu;simp only[Cs] at hu;rw[D3 h2] at he;obtain⟨r,p1,p2⟩:=Wp (w:=w) (k:=k) ht hn dT h1 hb hu;exact⟨r,by rw[he];exact El p1,p2⟩
 .cases hu
theorem Ux{o:Oper}{t e:TypeId}{n:Nat}{x y:Operand}(ht:C.P.underlying t=some (.slice e))(hn:BP C.P e=some n)(he:execOp a.eval o=(do pure (Next.value (<-Instr.indexAt t (a.eval x) (a.eval y)))))
  (hr:CS C γ0 w0 γ β σ h a w) {args:List Aa} (ha:Bq C σ [x,y]=some args):Hk C.P γ a o w (.Fm n) args:=by
 intro u hu;obtain⟨p,q,rfl,h1,h2⟩:=Fc hr ha;simp only[Aw] at hu;split at hu;·rename_i e;cases e;rename_i k i;rw[D3 h2] at he;obtain⟨r,p1,p2⟩:=eQ (w:=w) (k:=k) ht hn h1 hu;exact⟨r,by rw[he];exact El p1,p2⟩
 .cases hu
theorem Wt{o:Oper}{t e:TypeId}{len n:Nat}{x y:Operand}(ht:C.P.underlying t=some (.array len e))(hn:BP C.P e=some n)(he:execOp a.eval o=(do pure (Next.value (<-Instr.indexAt t (a.eval x) (a.eval y)))))
  (hr:CS C γ0 w0 γ β σ h a w) {args:List Aa} (ha:Bq C σ [x,y]=some args):Hk C.P γ a o w (.Ub len n) args:=by
 intro u hu;obtain⟨p,q,rfl,h1,h2⟩:=Fc hr ha;simp only[Aw] at hu;split at hu
 .rename_i e;cases e;rename_i k i;cases hb:L4 i len with
  |none=>rw[hb] at hu;cases hu
  |some j=>rw[hb] at hu;simp only[Cs] at hu;rw[D3 h2] at he;obtain⟨r,p1,p2⟩:=qG (w:=w) (k:=k) ht hn h1 hb hu;exact⟨r,by rw[he];exact El p1,p2⟩
 .cases hu
theorem SA{o:Oper}{t:TypeId}{x:Operand}{lo hi:Option Operand}{isStr:Bool}{size:Nat}(ht:if isStr=true then C.P.underlying t=some .string else∃e,C.P.underlying t=some (.slice e)/\BP C.P e=some size)
  (he:execOp a.eval o=(do pure (Next.value (<-Instr.sliceAt t (a.eval x) (lo.map a.eval) (hi.map a.eval) none))))
  (hr:CS C γ0 w0 γ β σ h a w) {args:List Aa} (ha:Bq C σ (x::(lo.toList++hi.toList))=some args):Hk C.P γ a o w (.Hs size isStr lo.isSome hi.isSome) args:=by
 intro u hu;have h1:=Dx hr ha;cases args with
 |nil=>cases h1
 |cons s as=>obtain⟨_,_,e,h2,h3⟩:=h1.KY;cases e;simp only[Aw] at hu;obtain⟨r,p1,p2⟩:=et (P:=C.P) (w:=w) (lo:=lo.map a.eval) (hi:=hi.map a.eval) ht h2 (by cases lo<;>cases hi<;>simpa using h3) (by simpa using hu);exact⟨r,by rw[he];exact El p1,p2⟩
theorem Z3{o:Oper}{t:TypeId}{parts:Array (Nat×Operand)}{z:Aa}{ps:List (Nat×Nat)}(hz:GN C.P t=some z)(hp:I6 C.P t parts.toList=some ps)(hb:TM C.P t=true)
  (he:execOp a.eval o=(do pure (Next.value (<-Instr.build t (parts.map λ(i,x)=>(i,a.eval x))))))
  (hr:CS C γ0 w0 γ β σ h a w) {args:List Aa} (ha:Bq C σ (parts.toList.map (·.2))=some args):Hk C.P γ a o w (.Br z.cells ps) args:=by
 intro u hu;obtain⟨r,p1,p2⟩:=qH (w:=w) hz hp hb (Dx hr ha) hu;exact⟨r,by rw[he];exact El p1,p2⟩
theorem X8{o:Oper}{x:Operand}(ho:o.op= .nilCheck x)(hr:CS C γ0 w0 γ β σ h a w){args:List Aa}(ha:Bq C σ [x]=some args):Hk C.P γ a o w .KT args:=by
 intro u hu;obtain⟨v,rfl,h1⟩:=F8 hr ha;simp only[Aw,ZN] at hu;split at hu;·rename_i p;cases hu;obtain⟨i,k⟩:=p;obtain⟨b,hb,hv⟩:=h1;exact⟨_,by simp only[execOp,ho,hv];rfl,b,hb,rfl⟩
 .cases hu;obtain⟨b,k,hv,hm⟩:=h1;exact⟨_,by simp only[execOp,ho,hv];rfl,b,k,rfl,hm⟩
 .cases hu;obtain⟨fs,cs,hv,p,q⟩:=h1;exact⟨_,by simp only[execOp,ho,hv];rfl,fs,cs,rfl,p,q⟩
 .cases hu
theorem LS:∀{xs:List Operand} {us:List Aa},Bq C σ xs=some us->us.length=xs.length
 |[],us,h=>by cases h;rfl
 |x::xs,us,h=>by
  unfold Bq at h;split at h;·rename_i u Dk h1 h2;cases h;simp[LS h2]
  .cases h
theorem MN{P:Program}{o:Oper}{c:Call}{b:Builtin}{s:Sem Value}(ho:o.op= .call c)(hc:c.callee= .builtin b)(hs:builtin b c.argTypes o.type (c.args.map λ| .const _=>true|_=>false) (c.args.map a.eval)=(do pure (Next.value (<-s)))){v:Value}
  (hv:s.run P w= .ok v w):(execOp a.eval o).run P w= .ok (.value v) w:=by
 have:execOp a.eval o=(do pure (Next.value (<-s))):=by rw[<-hs];simp only[execOp,ho,resolve,hc];rfl
 rw[this];exact El hv
theorem W8{o:Oper}{c:Call}{t:TypeId}{isStr:Bool}(ho:o.op= .call c)(hc:c.callee= .builtin .len)(h0:c.argTypes[0]?=some t)(ht:if isStr=true then C.P.underlying t=some .string else∃e,C.P.underlying t=some (.slice e))
  (hr:CS C γ0 w0 γ β σ h a w) {args:List Aa} (ha:Bq C σ c.args.toList=some args):Hk C.P γ a o w (.len isStr) args:=by
 intro u hu;simp only[Aw] at hu;split at hu
 .rename_i s;have hl:=LS ha;obtain⟨x,hx⟩:∃x,c.args.toList=[x]:=List.length_eq_one_iff.1 hl.symm;rw[hx] at ha;obtain⟨_,e,h1⟩:=F8 hr ha;cases e;obtain⟨r,p1,p2⟩:=ee (P:=C.P) (w:=w) (ty:=o.type) ht h0 h1 hu;have e:c.args.map a.eval=#[a.eval x]:=by apply Jf;simp[hx]
  exact⟨r,MN ho hc (s:=Builtin.len_ c.argTypes o.type #[a.eval x]) (by rw[e];rfl) p1,p2⟩
 .cases hu
theorem Qz{o:Oper}{c:Call}{isMax:Bool}(ho:o.op= .call c)(hc:c.callee= .builtin (if isMax then .max else .min))(hr:CS C γ0 w0 γ β σ h a w){args:List Aa}(ha:Bq C σ c.args.toList=some args):Hk C.P γ a o w (.Kl isMax) args:=by
 intro u hu;simp only[Aw] at hu;split at hu
 .rename_i k p l q;split at hu
  .rename_i hk;subst hk;cases hu;have hl:=LS ha;obtain⟨x,y,hx⟩:∃x y,c.args.toList=[x,y]:=by
    cases hq:c.args.toList with
    |nil=>rw[hq] at hl;simp at hl
    |cons x xs=>cases xs with
     |nil=>rw[hq] at hl;simp at hl
     |cons y ys=>cases ys with
      |nil=>exact⟨x,y,rfl⟩
      |cons _ _=>rw[hq] at hl;simp at hl
   rw[hx] at ha;obtain⟨_,_,e,h1,h2⟩:=Fc hr ha;cases e;have e:c.args.map a.eval=#[.int k p,.int k q]:=by apply Jf;simp[hx,D3 h1,D3 h2]
   cases isMax with
   |true=>exact⟨_,MN ho hc (s:=Builtin.max_ c.argTypes o.type #[.int k p,.int k q]) (by rw[e];rfl) (by simp[Builtin.max_,Builtin.max2]),rfl⟩
   |false=>exact⟨_,MN ho hc (s:=Builtin.min_ c.argTypes o.type #[.int k p,.int k q]) (by rw[e];rfl) (by simp[Builtin.min_,Builtin.min2]),rfl⟩
  .cases hu
 .cases hu
end
end Go.Am
end
section
namespace Go.Am
open Go
section
variable{C:FI}{γ0 γ:Gh}{w0 w:World}{β:Nat->Nat}{σ:BD}{h:Ae}{a:Act}{fid:FuncId}{ops:List Oper}
theorem Lt{x:Operand}{d:Nat}{take:Bool}{r:Er}(h:Ju C σ x d take=some r):∃ws,r= .pure ws:=by
 unfold Ju at h;split at h;·cases h;exact⟨_,rfl⟩
 .cases h;exact⟨_,rfl⟩
 .split at h;·cases h;exact⟨_,rfl⟩
  .cases hc:HG _ with
   |none=>rw[hc] at h;cases h
   |some s=>rw[hc] at h;cases h;exact⟨_,rfl⟩
 .cases hc:HG _ with
  |none=>rw[hc] at h;cases h
  |some s=>rw[hc] at h;cases h;exact⟨_,rfl⟩
 .cases h
theorem W9{t:TypeId}{v:Aa}{d:Nat}{p:We}{args:List Aa}{dst:Option Nat}{own:Bool}{dem:Option (Nat×Aa)}:Ss C fid t v d≠some (.op p args dst own dem):=by
 unfold Ss;intro h;split at h;·cases h
 .split at h;·cases h
  .split at h<;>cases h
theorem eV{t:TypeId}{x:Operand}{d:Nat}{take:Bool}{p:We}{args:List Aa}{dst:Option Nat}{own:Bool}{dem:Option (Nat×Aa)}:Kp C σ t x d take≠some (.op p args dst own dem):=by
 unfold Kp;intro h;split at h;·cases h
 .split at h;·simp only at h;split at h<;>cases h
  .cases h
 .split at h<;>cases h
 .cases h
theorem Z4{t:TypeId}{x y:Operand}{p:We}{args:List Aa}{dst:Option Nat}{own:Bool}{dem:Option (Nat×Aa)}:IA C σ t x y≠some (.op p args dst own dem):=by
 unfold IA;intro h;split at h;·cases h
 .split at h<;>cases h
 .cases h
theorem qL{o:Oper}{p:We}{args:List Aa}{dst:Option Nat}{own:Bool}{dem:Option (Nat×Aa)}(hc:Fv C fid ops σ o=some (.op p args dst own dem))(hst:p.still=true)(hr:CS C γ0 w0 γ β σ h a w):
  Hk C.P γ a o w p args/\dst=o.dst/\own=false/\dem=none:=by
 unfold Fv at hc
 split at hc
 .split at hc
  .obtain⟨ws,e⟩:=Lt hc;cases e
  .cases hc
 .split at hc
  .obtain⟨ws,e⟩:=Lt hc;cases e
  .cases hc
 .rename_i c x y ho
  split at hc
  .obtain⟨ws,e⟩:=Lt hc;cases e
  .obtain⟨ws,e⟩:=Lt hc;cases e
  .obtain⟨as,e1,e2⟩:=Dy hc
   cases e2
   exact⟨eT ho hr e1,rfl,rfl,rfl⟩
 .split at hc
  .split at hc
   .split at hc<;>cases hc
   .exact absurd hc W9
  .cases hc
 .split at hc
  .exact absurd hc W9
  .cases hc
 .rename_i t parts ho
  split at hc
  .rename_i z ps hz hp
   split at hc
   .rename_i hb
    obtain⟨as,e1,e2⟩:=Dy hc
    cases e2
    exact⟨Z3 hz hp hb (by simp[execOp,ho]) hr e1,rfl,rfl,rfl⟩
   .cases hc
  .cases hc
 .split at hc
  .split at hc
   .split at hc
    .cases hq:Bq C σ _ with
     |none=>rw[hq] at hc;cases hc
     |some q=>rw[hq] at hc;cases hc;cases hst
    .cases hc
   .cases hc
  .cases hc
 .split at hc
  .exact absurd hc eV
  .cases hc
 .split at hc
  .exact absurd hc Z4
  .cases hc
 .rename_i x ho
  split at hc
  .cases hc
  .cases hc
  .obtain⟨as,e1,e2⟩:=Dy hc
   cases e2
   exact⟨X8 ho hr e1,rfl,rfl,rfl⟩
 .rename_i op t x y k ho
  split at hc
  .rename_i q hq
   obtain⟨as,e1,e2⟩:=Dy hc
   cases e2
   exact⟨qI hq (by simp[execOp,ho]) hr e1,rfl,rfl,rfl⟩
  .cases hc
 .rename_i op t x ho
  obtain⟨as,e1,e2⟩:=Dy hc
  cases e2
  exact⟨uW (by simp[execOp,ho]) hr e1,rfl,rfl,rfl⟩
 .rename_i src aJc x ho
  split at hc
  .cases hq:Es C σ x with
   |none=>rw[hq] at hc;cases hc
   |some q=>rw[hq] at hc;cases hc
  .split at hc
   .cases hq:Es C σ x with
    |none=>rw[hq] at hc;cases hc
    |some q=>rw[hq] at hc;cases hc
   .obtain⟨as,e1,e2⟩:=Dy hc
    cases e2;cases hst
  .rename_i q LU Rq hq
   obtain⟨as,e1,e2⟩:=Dy hc
   cases e2
   refine⟨?_,rfl,rfl,rfl⟩
   unfold Uk at hq
   split at hq
   .rename_i hs hd
    cases hq
    exact eU hs hd (by simp[execOp,ho]) hr e1
   .rename_i hs hd
    cases hq
    exact qJ hs hd (by simp[execOp,ho]) hr e1
   .cases hq
   .split at hq
    .cases hq;cases hst
    .cases hq
   .split at hq
    .cases hq;cases hst
    .cases hq
   .cases hq
  .cases hc
 .split at hc
  .cases hc
  .cases hc
 .cases hc
 .split at hc
  .split at hc<;>cases hc
  .cases hc
 .split at hc
  .split at hc<;>cases hc
  .cases hc
 .split at hc
  .split at hc<;>cases hc
  .cases hc
 .split at hc
  .split at hc<;>cases hc
  .cases hc
 .split at hc
  .split at hc
   .exact absurd hc J2
   .cases hc
  .cases hc
 .split at hc
  .cases hc
  .exact absurd hc J2
  .cases hc
 .split at hc
  .split at hc
   .exact absurd hc J2
   .cases hc
  .cases hc
 .split at hc
  .exact absurd hc J2
  .cases hc
 .rename_i t x lo hi ho
  split at hc
  .rename_i ht
   obtain⟨as,e1,e2⟩:=Dy hc
   cases e2
   exact⟨SA (isStr:=true) ht (by simp[execOp,ho]) hr e1,rfl,rfl,rfl⟩
  .rename_i e ht
   split at hc
   .rename_i n hn
    split at hc
    .exact absurd hc J2
    .obtain⟨as,e1,e2⟩:=Dy hc
     cases e2
     exact⟨SA (isStr:=false) ⟨e,ht,hn⟩ (by simp[execOp,ho]) hr e1,rfl,rfl,rfl⟩
   .cases hc
  .cases hc
 .rename_i t x f ho
  split at hc
  .rename_i off sh d hf hd
   split at hc
   .cases hc
   .cases hc
   .obtain⟨as,e1,e2⟩:=Dy hc
    cases e2
    exact⟨Td hf (by simp[execOp,ho]) hr e1,hd.symm,rfl,rfl⟩
  .cases hc
 .rename_i t x f ho
  split at hc
  .rename_i off sh hf
   obtain⟨as,e1,e2⟩:=Dy hc
   cases e2
   exact⟨Z0 hf (by simp[execOp,ho]) hr e1,rfl,rfl,rfl⟩
  .cases hc
 .rename_i t x i ho
  split at hc
  .rename_i e ht
   split at hc
   .rename_i n hn
    obtain⟨as,e1,e2⟩:=Dy hc
    cases e2
    exact⟨Ux ht hn (by simp[execOp,ho]) hr e1,rfl,rfl,rfl⟩
   .cases hc
  .rename_i len e ht
   split at hc
   .rename_i n hn
    split at hc
    .cases hc
    .obtain⟨as,e1,e2⟩:=Dy hc
     cases e2
     exact⟨Wt ht hn (by simp[execOp,ho]) hr e1,rfl,rfl,rfl⟩
   .cases hc
  .cases hc
 .rename_i t x i ho
  split at hc
  .rename_i ht
   obtain⟨as,e1,e2⟩:=Dy hc
   cases e2
   exact⟨Te ht (by simp[execOp,ho]) hr e1,rfl,rfl,rfl⟩
  .rename_i len e ht
   split at hc
   .rename_i n sh hn dT
    obtain⟨as,e1,e2⟩:=Dy hc
    cases e2
    exact⟨Tf ht hn dT (by simp[execOp,ho]) hr e1,rfl,rfl,rfl⟩
   .cases hc
  .cases hc
 .rename_i x i ho
  obtain⟨as,e1,e2⟩:=Dy hc
  cases e2
  exact⟨qK (by simp[execOp,ho]) hr e1,rfl,rfl,rfl⟩
 .rename_i c ho
  unfold PF at hc
  split at hc
  .rename_i hcl
   split at hc
   .rename_i t h0
    split at hc
    .rename_i ht
     obtain⟨as,e1,e2⟩:=Dy hc
     cases e2
     exact⟨W8 (isStr:=true) ho hcl h0 ht hr e1,rfl,rfl,rfl⟩
    .rename_i e ht
     obtain⟨as,e1,e2⟩:=Dy hc
     cases e2
     exact⟨W8 (isStr:=false) ho hcl h0 ⟨e,ht⟩ hr e1,rfl,rfl,rfl⟩
    .cases hc
   .cases hc
  .split at hc
   .split at hc
    all_goals first
     |(cases hc;done)
     | (split at hc
        . split at hc
          . split at hc
            . split at hc
              . split at hc
                . cases hc
                . split at hc
                  . cases hc
                  . cases hc; cases hst
              . split at hc <;> cases hc
            . cases hc
          . cases hc
        . cases hc)
   .cases hc
  .split at hc
   .split at hc
    all_goals first
     |(cases hc;done)
     | (split at hc
        . exact absurd hc J2
        . cases hc)
   .cases hc
  .split at hc
   .split at hc
    .split at hc
     .exact absurd hc J2
     .cases hc
    .cases hc
   .cases hc
  .rename_i hcl
   split at hc
   .obtain⟨as,e1,e2⟩:=Dy hc
    cases e2
    exact⟨Qz (isMax:=true) ho hcl hr e1,rfl,rfl,rfl⟩
   .cases hc
  .rename_i hcl
   split at hc
   .obtain⟨as,e1,e2⟩:=Dy hc
    cases e2
    exact⟨Qz (isMax:=false) ho hcl hr e1,rfl,rfl,rfl⟩
   .cases hc
  .split at hc
   .split at hc
    .split at hc
     .exact absurd hc J2
     .cases hc
    .cases hc
   split at hc
   .cases hq:Bq C σ c.args.toList with
    |none=>rw[hq] at hc;cases hc
    |some q=>
     rw[hq] at hc
     simp only[BR,BC] at hc
     split at hc<;>cases hc
   .cases hc
  .split at hc<;>cases hc
  .cases hc
 .cases hc
end
end Go.Am
end
