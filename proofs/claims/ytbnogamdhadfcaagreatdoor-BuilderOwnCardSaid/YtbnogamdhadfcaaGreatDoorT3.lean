/- Lemmas -/
import Derived.Test.YtbnogamdhadfcaaGreatDoorT2
import Derived.Laws.Slices
set_option linter.unusedVariables false
set_option linter.unusedSimpArgs false
section
namespace Go.Am
open Go
section
variable{P:Program}{γ:Gh}{w:World}
theorem Qx{a:Bool}{v:Value}(h:BH γ (.bool a) v):v= .bool a:=h
theorem D5{k:IntKind}{a:Int}{v:Value}(h:BH γ (.int k a) v):v= .int k a:=h
theorem MN{a:As}{v:Value}(h:BH γ (.str a) v):v= .string ⟨⟨a⟩⟩:=h
theorem Bb.ey{us:List Value}(h:Bb γ [] us):us=[]:=h
theorem Bb.K0{a:Aa}{l:List Aa}{us:List Value}(h:Bb γ (a::l) us):∃u Dm,us=u::Dm/\BH γ a u/\Bb γ l Dm:=h
theorem Bb.one{a:Aa}{us:List Value}(h:Bb γ [a] us):∃u,us=[u]/\BH γ a u:=by obtain⟨u,Dm,rfl,h1,h2⟩:=h;rw[h2.ey];exact⟨u,rfl,h1⟩
theorem Bb.ZW{a b:Aa}{us:List Value}(h:Bb γ [a,b] us):∃u v,us=[u,v]/\BH γ a u/\BH γ b v:=by obtain⟨u,Dm,rfl,h1,h2⟩:=h;obtain⟨v,rfl,h3⟩:=h2.one;exact⟨u,v,rfl,h1,h3⟩
theorem Bb.SC{a b c:Aa}{us:List Value}(h:Bb γ [a,b,c] us):∃u v x,us=[u,v,x]/\BH γ a u/\BH γ b v/\BH γ c x:=by obtain⟨u,Dm,rfl,h1,h2⟩:=h;obtain⟨v,x,rfl,h3,h4⟩:=h2.ZW;exact⟨u,v,x,rfl,h1,h3,h4⟩
def Value.Jd:Value->Bool
 | .bool _| .pointer _| .slice _ _ _| .func _ _ _| .nilFunc| .map _=>true
 |_=>false
theorem RI{op:BinOp}{neg:Bool}(MD:(op= .eql/\neg=false)\/(op= .neq/\neg=true))(t:TypeId)(ox oy:Operand){x y:Value}(hx:Value.Jd x=true)(hy:Value.Jd y=true){e:Bool}
  (he:(Op.equal t x y).run P w= .ok e w):(do eqGuard op t ox oy x y;binOp op t x y:Sem Value).run P w= .ok (.bool (e != neg)) w:=by
 have hg:eqGuard op t ox oy x y=pure ():=by rcases MD with⟨rfl,_⟩|⟨rfl,_⟩<;>cases x<;>simp[Value.Jd] at hx<;>rfl
 rw[hg];rcases MD with⟨rfl,rfl⟩|⟨rfl,rfl⟩
 .have hb:binOp .eql t x y=(do pure (.bool (<-Op.equal t x y))):=by cases x<;>simp[Value.Jd] at hx<;>cases y<;>simp[Value.Jd] at hy<;>rfl
  simp[hb,he]
 .have hb:binOp .neq t x y=(do pure (.bool (!(<-Op.equal t x y)))):=by cases x<;>simp[Value.Jd] at hx<;>cases y<;>simp[Value.Jd] at hy<;>rfl
  simp[hb,he]
theorem ZX{op:BinOp}{neg:Bool}(MD:(op= .eql/\neg=false)\/(op= .neq/\neg=true))(t:TypeId)(ox oy:Operand)(ht:P.underlying t=some .bool)(a b:Bool):
  (do eqGuard op t ox oy (.bool a) (.bool b);binOp op t (.bool a) (.bool b):Sem Value).run P w= .ok (.bool ((a==b) != neg)) w:=
 RI MD t ox oy rfl rfl (run_equalIn_bool' w 9999 t a b ht)
theorem Tg{d:Nat}{t e:TypeId}(ht:P.underlying t=some (.pointer e))(hz:∃n,BQ P e=some (n+1)){a b:Aa}{x y:Value}(hx:BH γ a x)(hy:BH γ b y){r:Bool}(h:kF a b=some r):
  (Op.equalIn (d+1) t x y).run P w= .ok r w/\Value.Jd x=true/\Value.Jd y=true:=by
 obtain⟨n,hn⟩:=hz;unfold kF at h;split at h
 .rename_i q;cases h;rw[show x= .pointer none from hx];have:∃p,y= .pointer p/\p.isNone=q.isNone:=by
   cases q with
   |none=>exact⟨none,hy,rfl⟩
   |some p=>obtain⟨i,o⟩:=p;obtain⟨b,_,rfl⟩:=hy;exact⟨_,rfl,rfl⟩
  obtain⟨p,rfl,hp⟩:=this;exact⟨by simp[Op.equalIn,run_underlying ht,hp],rfl,rfl⟩
 .rename_i p;cases h;obtain⟨i,o⟩:=p;obtain⟨b,_,rfl⟩:=hx;rw[show y= .pointer none from hy];exact⟨by simp[Op.equalIn,run_underlying ht],rfl,rfl⟩
 .rename_i p q;split at h;·rename_i he;cases h;subst he;obtain⟨i,o⟩:=p;obtain⟨b,hb,rfl⟩:=hx;obtain⟨b',SB,rfl⟩:=hy;rw[hb] at SB;cases SB;exact⟨by simp[Op.equalIn,run_underlying ht,Dq hn,sameAddr],rfl,rfl⟩
  .cases h
 .cases h;rw[show x= .pointer none from hx];obtain⟨b,o,rfl,_⟩:=hy;exact⟨by simp[Op.equalIn,run_underlying ht],rfl,rfl⟩
 .cases h;rw[show y= .pointer none from hy];obtain⟨b,o,rfl,_⟩:=hx;exact⟨by simp[Op.equalIn,run_underlying ht],rfl,rfl⟩
 .cases h
theorem F7{d:Nat}{t e:TypeId}(ht:P.underlying t=some (.slice e)){p q:Option Addr}{n c m k:Nat}(h:p=none\/q=none):
  (Op.equalIn (d+1) t (.slice p n c) (.slice q m k)).run P w= .ok (p.isNone&&q.isNone) w:=by
 cases p<;>cases q<;>simp at h<;>simp[Op.equalIn,run_underlying ht]
theorem K4{d:Nat}{t:TypeId}{a b:Array TypeId}{c:Bool}(ht:P.underlying t=some (.func a b c)){f:Fn}{x y:Array Value}:
  (Op.equalIn (d+1) t .nilFunc .nilFunc).run P w= .ok true w/\(Op.equalIn (d+1) t .nilFunc (.func f x y)).run P w= .ok false w/\(Op.equalIn (d+1) t (.func f x y) .nilFunc).run P w= .ok false w:=by
 refine⟨?_,?_,?_⟩<;>simp[Op.equalIn,run_underlying ht]
theorem Kt{d:Nat}{t k e:TypeId}(ht:P.underlying t=some (.map k e)){p q:Option Nat}(h:p=none\/q=none):
  (Op.equalIn (d+1) t (.map p) (.map q)).run P w= .ok (p.isNone&&q.isNone) w:=by
 cases p<;>cases q<;>simp at h<;>simp[Op.equalIn,run_underlying ht]
theorem Th{d:Nat}{t:TypeId}{k:NK}(ht:match k with| .sl=>∃e,P.underlying t=some (.slice e)| .fn=>∃a b c,P.underlying t=some (.func a b c)| .mp=>∃a b,P.underlying t=some (.map a b))
  {a b:Aa} {x y:Value} (hx:BH γ a x) (hy:BH γ b y) {r:Bool} (h:kG k a b=some r):
  (Op.equalIn (d+1) t x y).run P w= .ok r w/\Value.Jd x=true/\Value.Jd y=true:=by
 unfold kG at h;split at h;case h_1=>obtain⟨e,ht⟩:=ht;cases h;rw[show x= .slice none 0 0 from hx,show y= .slice none 0 0 from hy];exact⟨F7 ht (.inl rfl),rfl,rfl⟩
 case h_2=>obtain⟨e,ht⟩:=ht;cases h;rw[show x= .slice none 0 0 from hx];obtain⟨_,_,rfl,_⟩:=hy;exact⟨F7 ht (.inl rfl),rfl,rfl⟩
 case h_3=>obtain⟨e,ht⟩:=ht;cases h;rw[show y= .slice none 0 0 from hy];obtain⟨_,_,rfl,_⟩:=hx;exact⟨F7 ht (.inr rfl),rfl,rfl⟩
 case h_4=>obtain⟨e,ht⟩:=ht;cases h;rw[show x= .slice none 0 0 from hx];obtain⟨_,_,_,rfl,_⟩:=hy;exact⟨F7 ht (.inl rfl),rfl,rfl⟩
 case h_5=>obtain⟨e,ht⟩:=ht;cases h;rw[show y= .slice none 0 0 from hy];obtain⟨_,_,_,rfl,_⟩:=hx;exact⟨F7 ht (.inr rfl),rfl,rfl⟩
 case h_6=>obtain⟨_,_,_,ht⟩:=ht;cases h;rw[show x= .nilFunc from hx,show y= .nilFunc from hy];exact⟨(K4 ht (f:= .func 0) (x:=#[]) (y:=#[])).1,rfl,rfl⟩
 case h_7=>obtain⟨_,_,_,ht⟩:=ht;cases h;rw[show x= .nilFunc from hx];obtain⟨_,_,rfl,_⟩:=hy;exact⟨(K4 ht).2.1,rfl,rfl⟩
 case h_8=>obtain⟨_,_,_,ht⟩:=ht;cases h;rw[show y= .nilFunc from hy];obtain⟨_,_,rfl,_⟩:=hx;exact⟨(K4 ht).2.2,rfl,rfl⟩
 case h_9=>
  rename_i q;obtain⟨_,_,ht⟩:=ht;cases h;rw[show x= .map none from hx];cases q with
  |none=>rw[show y= .map none from hy];exact⟨Kt ht (.inl rfl),rfl,rfl⟩
  |some id=>obtain⟨b,_,rfl⟩:=hy;exact⟨Kt ht (.inl rfl),rfl,rfl⟩
 case h_10=>obtain⟨_,_,ht⟩:=ht;cases h;rw[show y= .map none from hy];obtain⟨b,_,rfl⟩:=hx;exact⟨Kt ht (.inr rfl),rfl,rfl⟩
 .cases h
theorem qE{op:BinOp}{args:List Aa}{u:Aa}(h:Aw (.int op) args=some u):∃k a l b,args=[.int k a,.int l b]/\kE op k a l b=some u:=by
 simp only[Aw] at h;split at h;·exact⟨_,_,_,_,rfl,h⟩
 .cases h
theorem qF{op:BinOp}{args:List Aa}{u:Aa}(h:Aw (.str op) args=some u):∃a b,args=[.str a,.str b]/\WV op a b=some u:=by
 simp only[Aw] at h;split at h;·exact⟨_,_,rfl,h⟩
 .cases h
theorem ZY{op:BinOp}{t:TypeId}{p:We}(hp:OC P op t=some p)(ox oy:Operand){args:List Aa}{x y:Value}(ha:Bb γ args [x,y]){u:Aa}(h:Aw p args=some u):
  ∃v,(do eqGuard op t ox oy x y;binOp op t x y:Sem Value).run P w= .ok v w/\BH γ u v:=by
 unfold OC at hp;split at hp;·cases hp;obtain⟨k,a,l,b,rfl,h⟩:=qE h;obtain⟨_,_,e,hx,hy⟩:=ha.ZW;cases e;rw[D5 hx,D5 hy];exact ZR t ox oy h
 .cases hp;obtain⟨a,b,rfl,h⟩:=qF h;obtain⟨_,_,e,hx,hy⟩:=ha.ZW;cases e;rw[MN hx,MN hy];exact ZS t ox oy h
 .rename_i d h1 h2 hu;obtain⟨neg,MD,hp'⟩:∃neg,((op= .eql/\neg=false)\/(op= .neq/\neg=true))/\Ry P t neg d=some p:=by cases op<;>first|cases hp;done|exact⟨false,.inl ⟨rfl,rfl⟩,hp⟩|exact⟨true,.inr ⟨rfl,rfl⟩,hp⟩
  clear h1 h2 hp;have hp:=hp';clear hp';unfold Ry at hp;split at hp
  .cases hp;simp only[Aw] at h;split at h;·obtain⟨_,_,e,hx,hy⟩:=ha.ZW;cases e;cases h;rw[Qx hx,Qx hy];exact⟨_,ZX MD t ox oy hu _ _,rfl⟩
   .cases h
  .split at hp
   .rename_i hg;cases hk:NN P 20 t with
    |none=>rw[hk] at hp;cases hp
    |some ks=>
     rw[hk] at hp;cases hp;simp only[Aw] at h;split at h;·obtain⟨_,_,e,hx,hy⟩:=ha.ZW;cases e;exact ZV MD hg hk ⟨_,hu⟩ hx hy h
     .cases h
   .cases hp
  .split at hp;·cases hp
   .rename_i e hz;cases hp;simp only[Aw] at h;split at h
    .rename_i a b;obtain⟨_,_,e,hx,hy⟩:=ha.ZW;cases e;cases hq:kF a b with
     |none=>rw[hq] at h;cases h
     |some r=>rw[hq] at h;cases h;obtain⟨p1,p2,p3⟩:=Tg (w:=w) (d:=9999) hu (by cases ZB:BQ P e with|none=>rw[ZB] at hz;exact absurd rfl hz|some n=>cases n with|zero=>rw[ZB] at hz;exact absurd rfl hz|succ n=>exact⟨n,rfl⟩) hx hy hq;exact⟨_,RI MD t ox oy p2 p3 p1,rfl⟩
    .cases h
  all_goals first
   |cases hp;done
   | (cases hp
      simp only [Aw] at h
      split at h
      . rename_i a b
        obtain ⟨_, _, e, hx, hy⟩ := ha.ZW
        cases e
        cases hq : kG _ a b with
        | none => rw [hq] at h; cases h
        | some r =>
          rw [hq] at h; cases h
          obtain ⟨p1, p2, p3⟩ := Th (w := w) (P := P) (t := t) (d := 9999) (by first | exact ⟨_, hu⟩ | exact ⟨_, _, hu⟩ | exact ⟨_, _, _, hu⟩) hx hy hq
          exact ⟨_, RI MD t ox oy p2 p3 p1, rfl⟩
      . cases h)
 .cases hp
end
end Go.Am
end
section
namespace Go.Am
open Go
section
variable{P:Program}{γ:Gh}{w:World}
theorem yk{op:UnOp}{a u:Aa}{x:Value}(hx:BH γ a x)(h:xt op a=some u):∃v,(Op.unary op x).run P w= .ok v w/\BH γ u v:=by
 unfold xt at h;split at h;·cases h;rw[Qx hx];exact⟨_,rfl,rfl⟩
 .cases h;rw[D5 hx];exact⟨_,rfl,rfl⟩
 .rename_i k n;rw[D5 hx];unfold tg at h;cases hs:OA (Op.unary .xor (.int k n)) with
  |none=>rw[hs] at h;cases h
  |some v=>
   rw[hs] at h;have e1:=Uu hs;simp only[Ct] at h;split at h;·cases h;exact⟨_,by rw[e1];rfl,rfl⟩
   .cases h
 .cases h
theorem X8{src dst:TypeId}{k l k':IntKind}{n:Int}(hs:P.underlying src=some (.int l))(hd:P.underlying dst=some (.int k)):(convert src dst (.int k' n)).run P w= .ok (.int k (k.wrap n)) w:=by simp[convert,run_underlying hs,run_underlying hd,Conv.intToInt]
theorem X9{src dst:TypeId}{l k':IntKind}{n:Int}(hs:P.underlying src=some (.int l))(hd:P.underlying dst=some .string):(convert src dst (.int k' n)).run P w= .ok (.string (Utf8.encode n)) w:=by simp[convert,run_underlying hs,run_underlying hd,Conv.intToString]
theorem qG{t:TypeId}{f off:Nat}{sh:Option Nat}(hf:HG P t f=some (off,sh)){cs:List Aa}{x:Value}(hx:BH γ (.agg cs) x){u:Aa}(h:ER cs off sh=some u):∃v,(Instr.field t x f).run P w= .ok v w/\BH γ u v:=by
 unfold HG at hf;split at hf
 .rename_i fs hu;split at hf
  .rename_i fd kP;split at hf;·rename_i n sh' h1 h2;cases hf;obtain⟨us,rfl,hr,h1c⟩:=hx;obtain⟨v,p,q⟩:=ZT (w:=w) h2 hr h1c h;exact⟨v,by simp[Instr.field,run_underlying hu,kP,asAgg,p],q⟩
   .cases hf
  .cases hf
 .cases hf
theorem PL{i:Int}{len j:Nat}(h:L4 i len=some j):0<=i/\i<len/\i.toNat=j:=by
 unfold L4 at h;split at h;·rename_i hc;cases h;exact⟨hc.1,hc.2,rfl⟩
 .cases h
theorem Ws{t e:TypeId}{len n:Nat}{sh:Option Nat}(ht:P.underlying t=some (.array len e))(hn:BQ P e=some n)(dR:EP P e=some sh){cs:List Aa}{x:Value}(hx:BH γ (.agg cs) x){k:IntKind}{i:Int}{j:Nat}
  (hi:L4 i len=some j) {u:Aa} (h:ER cs (j*n) sh=some u):∃v,(Instr.index t x (.int k i)).run P w= .ok v w/\BH γ u v:=by
 obtain⟨us,rfl,hr,h1c⟩:=hx;obtain⟨p1,p2,p3⟩:=PL hi;obtain⟨v,p,q⟩:=ZT (w:=w) dR hr h1c h;exact⟨v,by simp[Instr.index,asIntOf,run_underlying ht,p1,p2,Dq hn,p3,p],q⟩
theorem Wt{t:TypeId}(ht:P.underlying t=some .string){s:As}{k:IntKind}{i:Int}{b:UInt8}(h0:0<=i)(h:s[i.toNat]?=some b):
  (Instr.index t (.string ⟨⟨s⟩⟩) (.int k i)).run P w= .ok (.int .u8 b.toNat) w:=by
 obtain⟨hlt,hb⟩:=Ae.1 h;have e:(⟨⟨s⟩⟩:ByteArray)[i.toNat]?=some b:=by rw[ByteArray.getElem?_lt' _ _ (show i.toNat<(⟨⟨s⟩⟩:ByteArray).size from hlt),<-hb];rfl
 simp[Instr.index,asIntOf,run_underlying ht,h0,e]
theorem kQ{p u:Aa}{x:Value}{n:Nat}(hx:BH γ p x)(h:WW p n=some u):∃a,x= .pointer (some a)/\BH γ u (.pointer (some (a.add n))):=by
 unfold WW at h;split at h;·rename_i cs;cases h;obtain⟨b,o,rfl,hm⟩:=hx;refine⟨_,rfl,b,o+n,?_,hm.drop n⟩;unfold Addr.add;split<;>simp_all
 .rename_i id o;cases h;obtain⟨b,hb,rfl⟩:=hx;refine⟨_,rfl,b,hb,?_⟩;unfold Addr.add;split<;>simp_all
 .cases h
theorem ZZ{t:TypeId}{f off:Nat}{sh:Option Nat}(hf:HG P t f=some (off,sh)){p u:Aa}{x:Value}(hx:BH γ p x)(h:WW p off=some u):∃v,(Instr.fieldAt t x f).run P w= .ok v w/\BH γ u v:=by
 obtain⟨a,rfl,hu⟩:=kQ hx h;refine⟨_,?_,hu⟩;unfold HG at hf;split at hf
 .rename_i fs kO;split at hf
  .rename_i fd kP;split at hf;·rename_i n sh' h1 h2;cases hf;simp[Instr.fieldAt,run_underlying kO,kP,Instr.sureAddr,fieldPlace,Dq h1]
   .cases hf
  .cases hf
 .cases hf
theorem eO{t e:TypeId}{n:Nat}(ht:P.underlying t=some (.slice e))(hn:BQ P e=some n){s u:Aa}{x:Value}(hx:BH γ s x){k:IntKind}{i:Int}(h:elemOf n s i=some u):
  ∃v,(Instr.indexAt t x (.int k i)).run P w= .ok v w/\BH γ u v:=by
 have Fp:P.underlying t=some (.slice (P.elem t)):=by simp[Program.elem,ht]
 have he:P.elem t=e:=by simp[Program.elem,ht]
 unfold elemOf at h;split at h
 .rename_i z Au;split at h
  .rename_i hz;subst hz;split at h
   .rename_i h0;cases hr:Au[i.toNat]? with
    |none=>rw[hr] at h;cases h
    |some row=>
     rw[hr] at h;cases h;obtain⟨ad,cap,rfl,hc,hsp,hm⟩:=hx;obtain⟨hl,hm'⟩:=hm.get hr;have hlt:i<Au.length:=by have:=(Ae.1 hr).1;omega
     have eP:=MJ hsp hc (by omega);generalize ad.block=b at*;generalize ad.off=o at*;subst eP;refine⟨.pointer (some ((⟨b,o,none⟩:Addr).add (i.toNat*z))),by rw[run_indexAt_slice w t _ _ _ _ _ Fp,if_pos ⟨h0,hlt⟩,he,Dq hn];rfl,b,o+i.toNat*z,?_,hm'⟩;unfold Addr.add;split<;>simp_all
   .cases h
  .cases h
 .rename_i id off len z;split at h
  .rename_i hz;subst hz;cases hj:L4 i len with
   |none=>rw[hj] at h;cases h
   |some j=>rw[hj] at h;cases h;obtain⟨p1,p2,p3⟩:=PL hj;subst p3;obtain⟨b,cap,hb,rfl,hc,hz⟩:=hx;refine⟨.pointer (some ((⟨b,off,none⟩:Addr).add (i.toNat*z))),by rw[run_indexAt_slice w t _ _ _ _ _ Fp,if_pos ⟨p1,p2⟩,he,Dq hn];rfl,b,hb,?_⟩;unfold Addr.add;split<;>simp_all
  .cases h
 .cases h
theorem qH{t e:TypeId}{len n:Nat}(ht:P.underlying t=some (.array len e))(hn:BQ P e=some n){p u:Aa}{x:Value}(hx:BH γ p x){k:IntKind}{i:Int}{j:Nat}(hj:L4 i len=some j)(h:WW p (j*n)=some u):
  ∃v,(Instr.indexAt t x (.int k i)).run P w= .ok v w/\BH γ u v:=by
 have Fp:P.underlying t=some (.array (P.arrayLen t) (P.elem t)):=by simp[Program.elem,Program.arrayLen,ht]
 have he:P.elem t=e:=by simp[Program.elem,ht]
 have hl:P.arrayLen t=len:=by simp[Program.arrayLen,ht]
 obtain⟨a,rfl,hu⟩:=kQ hx h;obtain⟨p1,p2,p3⟩:=PL hj;subst p3;exact⟨_,by rw[run_indexAt_array w t _ _ _ Fp,hl,if_pos ⟨p1,p2⟩,he,Dq hn];rfl,hu⟩
theorem ez{t ty:TypeId}{isStr:Bool}(ht:if isStr=true then P.underlying t=some .string else∃e,P.underlying t=some (.slice e)){ts:Array TypeId}(ZC:ts[0]?=some t){s u:Aa}{x:Value}(hx:BH γ s x)(h:lenOf isStr s=some u):
  ∃v,(Builtin.len_ ts ty #[x]).run P w= .ok v w/\BH γ u v:=by
 cases isStr with
 |true=>
  replace ht:P.underlying t=some .string:=ht;unfold lenOf at h;split at h<;>first|cases h;done|skip
  simp only[BO] at h;cases h;rw[MN hx];refine⟨_,by simp[Builtin.len_,ZC,run_underlying ht];rfl,rfl⟩
 |false=>
  obtain⟨e,ht⟩:∃e,P.underlying t=some (.slice e):=ht;unfold lenOf at h;split at h;·cases h;obtain⟨ad,cap,rfl,_⟩:=hx;exact⟨_,by simp[Builtin.len_,ZC,run_underlying ht];rfl,rfl⟩
  .cases h;obtain⟨b,cap,_,rfl,_⟩:=hx;exact⟨_,by simp[Builtin.len_,ZC,run_underlying ht];rfl,rfl⟩
  .cases h;rw[show x= .slice none 0 0 from hx];exact⟨_,by simp[Builtin.len_,ZC,run_underlying ht];rfl,rfl⟩
  .cases h
  .cases h
theorem e_{vs:List Aa}{x:Value}(hx:BH γ (.tuple vs) x){i:Nat}{u:Aa}(h:vs[i]?=some u):∃v,(Instr.extract x i).run P w= .ok v w/\BH γ u v:=by
 obtain⟨us,rfl,hr⟩:=hx;obtain⟨v,hv,q⟩:=hr.get h;exact⟨v,by
  have:us[i]?=some v:=by simpa using hv
  simp[Instr.extract,this],q⟩
end
end Go.Am
end
section
namespace Go.Am
open Go
section
variable{P:Program}{γ:Gh}{w:World}
theorem MO{n:Int}{top j:Nat}(h:EM n top=some j):0<=n/\n<=top/\n.toNat=j:=by
 unfold EM at h;split at h;·rename_i hc;cases h;exact⟨hc.1,hc.2,rfl⟩
 .cases h
theorem JC{lo hi:Option Value}{as:List Aa}{len cap l h:Nat}{isSlice:Bool}(hb:DJ lo.isSome hi.isSome len as=some (l,h))(hr:Bb γ as (lo.toList++hi.toList))(hc:len<=cap):
  (Instr.sliceBounds isSlice len cap lo hi none).run P w= .ok (l,h,cap) w/\l<=h/\h<=len:=by
 cases lo<;>cases hi<;>simp only[Option.isSome,DJ] at hb
 .split at hb;·cases hb;exact⟨by simp[Instr.sliceBounds],AO _,Ac _⟩
  .cases hb
 .rename_i hv;split at hb
  .rename_i k h';cases hh:EM h' len with
   |none=>rw[hh] at hb;cases hb
   |some j=>
    rw[hh] at hb;cases hb;obtain⟨p1,p2,p3⟩:=MO hh;obtain⟨_,e,hx⟩:=hr.one;cases e;rw[D5 hx];refine⟨?_,AO _,by omega⟩;have:h'<=(cap:Int):=by omega
    simp[Instr.sliceBounds,run_sliceBound,p1,this,p3]
  .cases hb
 .rename_i lv;split at hb
  .rename_i k l';cases hh:EM l' len with
   |none=>rw[hh] at hb;cases hb
   |some j=>rw[hh] at hb;cases hb;obtain⟨p1,p2,p3⟩:=MO hh;obtain⟨_,e,hx⟩:=hr.one;cases e;rw[D5 hx];refine⟨?_,by omega,Ac _⟩;simp[Instr.sliceBounds,run_sliceBound,p1,p2,p3]
  .cases hb
 .rename_i lv hv;split at hb
  .rename_i k l' k' h';cases hh:EM h' len with
   |none=>rw[hh] at hb;cases hb
   |some j=>
    rw[hh] at hb;simp only[Ct] at hb;cases hh':EM l' j with
    |none=>rw[hh'] at hb;cases hb
    |some i=>
     rw[hh'] at hb;cases hb;obtain⟨p1,p2,p3⟩:=MO hh;obtain⟨q1,q2,q3⟩:=MO hh';obtain⟨_,_,e,hx,hy⟩:=hr.ZW;cases e;rw[D5 hx,D5 hy];refine⟨?_,by omega,by omega⟩;have:h'<=(cap:Int):=by omega
     simp[Instr.sliceBounds,run_sliceBound,p1,this,q1,p3,q3,q2]
  .cases hb
theorem ET.slice{Au:List (List Aa)}{z b o:Nat}(h:ET γ Au z b o)(l k:Nat):ET γ ((Au.take k).drop l) z b (o+l*z):=by
 refine ET.Gi λi r hi=>?_;rw[CA,Ch] at hi;split at hi;·obtain⟨p,q⟩:=h.get hi;exact⟨p,by rw[show o+l*z+i*z=o+(l+i)*z by rw[BC];omega];exact q⟩
 .cases hi
theorem fc{t:TypeId}{isStr:Bool}{size:Nat}(ht:if isStr=true then P.underlying t=some .string else∃e,P.underlying t=some (.slice e)/\BQ P e=some size){s u:Aa}{x:Value}(hx:BH γ s x){as:List Aa}{lo hi:Option Value}
  (hr:Bb γ as (lo.toList++hi.toList)) (h:Ja size isStr lo.isSome hi.isSome s as=some u):
  ∃v,(Instr.sliceAt t x lo hi none).run P w= .ok v w/\BH γ u v:=by
 unfold Ja at h;split at h
 .split at h
  .rename_i s O5;subst O5;replace ht:P.underlying t=some .string:=ht;cases hb:DJ lo.isSome hi.isSome s.length as with
   |none=>rw[hb] at h;cases h
   |some lh=>
    obtain⟨l,k⟩:=lh;rw[hb] at h;cases h;obtain⟨p1,p2,p3⟩:=JC (P:=P) (w:=w) (isSlice:=false) hb hr (Ac _);rw[MN hx,run_sliceAt_string w t _ _ _ _ ht];refine⟨.string ((⟨⟨s⟩⟩:ByteArray).extract l k),?_,?_⟩;·have e:(⟨⟨s⟩⟩:ByteArray).size=s.length:=rfl;simp only[Instr.slice,Sem.run_bind,run_underlying ht,Result.andThen_ok];simp only[e,p1,Option.isSome,C2,Ef,Sem.run_bind,Sem.run_pure,Result.andThen_ok]
    .show Value.string _=Value.string _;congr 1
     apply ByteArray.ext;apply Jm;simp[ByteArray.data_extract,MG,List.drop_take]
  .cases h
 .rename_i z Au;split at h
  .rename_i hc;obtain⟨rfl,rfl⟩:=hc;obtain⟨e,ht,hn⟩:∃e,P.underlying t=some (.slice e)/\BQ P e=some z:=ht;have Fp:P.underlying t=some (.slice (P.elem t)):=by simp[Program.elem,ht]
   have he:P.elem t=e:=by simp[Program.elem,ht]
   obtain⟨ad,cap,rfl,hc,hsp,hm⟩:=hx;cases hb:DJ lo.isSome hi.isSome Au.length as with
   |none=>rw[hb] at h;cases h
   |some lh=>
    obtain⟨l,k⟩:=lh;rw[hb] at h;cases h;obtain⟨p1,p2,p3⟩:=JC (P:=P) (w:=w) (isSlice:=true) hb hr hc;rw[run_sliceAt_slice w t _ _ _ _ Fp,run_slice_any w t _ _ _ Fp,p1,he,Result.andThen_ok,Dq hn];refine⟨_,rfl,?_⟩;show BH γ (.sl z ((Au.take k).drop l)) (.slice (if cap=l then some ad else Option.map (λq:Addr=>q.add (l*z)) (some ad)) (k-l) (cap-l));have hlen:((Au.take k).drop l).length=k-l:=by simp;omega
    by_cases hcl:cap=l;·have:(Au.take k).drop l=[]:=EY (by omega);rw[this];simp only[hcl,BO];exact⟨ad,l-l,by simp;omega,by simp,.inr (by omega),trivial⟩
    .rw[if_neg hcl];have eP:ad=⟨ad.block,ad.off,none⟩:=by
      rcases hsp with hsp|hsp
      .cases ad;simp_all
      .omega
     generalize ad.block=b at*;generalize ad.off=o at*;subst eP;refine⟨⟨b,o+l*z,none⟩,cap-l,?_,by omega,.inl rfl,hm.slice l k⟩;rw[hlen];simp only[BT];unfold Addr.add;split<;>simp_all
  .cases h
 .rename_i id off n z;split at h
  .rename_i hc;obtain⟨rfl,rfl⟩:=hc;obtain⟨e,ht,hn⟩:∃e,P.underlying t=some (.slice e)/\BQ P e=some z:=ht;have Fp:P.underlying t=some (.slice (P.elem t)):=by simp[Program.elem,ht]
   have he:P.elem t=e:=by simp[Program.elem,ht]
   obtain⟨b,cap,fg,rfl,hc,hz,hsz⟩:=hx;cases hb:DJ lo.isSome hi.isSome n as with
   |none=>rw[hb] at h;cases h
   |some lh=>
    obtain⟨l,k⟩:=lh;rw[hb] at h;simp only[Ct] at h;split at h
    .rename_i eQ;cases h;obtain⟨p1,p2,p3⟩:=JC (P:=P) (w:=w) (isSlice:=true) hb hr hc;rw[run_sliceAt_slice w t _ _ _ _ Fp,run_slice_any w t _ _ _ Fp,p1,he,Result.andThen_ok,Dq hn];refine⟨_,rfl,b,cap-l,fg,?_,by omega,⟨hz.1,Bt (Nat.sub_le _ _) hz.2⟩,?_⟩;·show Value.slice (if cap=l then some ⟨b,off,none⟩ else Option.map (λq:Addr=>q.add (l*z)) (some ⟨b,off,none⟩)) (k-l) (cap-l)=_;rw[if_neg (by omega)];simp only[BT];unfold Addr.add;split<;>simp_all
     .rw[hsz,Nat.add_assoc,<-BC,Nat.add_sub_cancel' (by omega)]
    .rename_i eQ;cases h;obtain⟨p1,p2,p3⟩:=JC (P:=P) (w:=w) (isSlice:=true) hb hr hc;rw[run_sliceAt_slice w t _ _ _ _ Fp,run_slice_any w t _ _ _ Fp,p1,he,Result.andThen_ok,Dq hn];have OE:k-l=0:=by omega
     by_cases hcl:cap=l;·refine⟨_,rfl,⟨b,off,none⟩,cap-l,?_,by simp,.inl rfl,trivial⟩;show Value.slice (if cap=l then some ⟨b,off,none⟩ else Option.map (λq:Addr=>q.add (l*z)) (some ⟨b,off,none⟩)) (k-l) (cap-l)=_;rw[if_pos hcl,OE];rfl
     .refine⟨_,rfl,(Addr.mk b off none).add (l*z),cap-l,?_,by simp,.inl ?_,trivial⟩;·show Value.slice (if cap=l then some ⟨b,off,none⟩ else Option.map (λq:Addr=>q.add (l*z)) (some ⟨b,off,none⟩)) (k-l) (cap-l)=_;rw[if_neg hcl,OE];rfl
      .unfold Addr.add;split<;>simp_all
  .cases h
 .split at h;·cases h
  .rename_i O5;have O5:isStr=false:=by simpa using O5
   subst O5;obtain⟨e,ht,hn⟩:∃e,P.underlying t=some (.slice e)/\BQ P e=some size:=ht;have Fp:P.underlying t=some (.slice (P.elem t)):=by simp[Program.elem,ht]
   have he:P.elem t=e:=by simp[Program.elem,ht]
   rw[show x= .slice none 0 0 from hx];cases hb:DJ lo.isSome hi.isSome 0 as with
   |none=>rw[hb] at h;cases h
   |some lh=>
    obtain⟨l,k⟩:=lh;rw[hb] at h;cases h;obtain⟨p1,p2,p3⟩:=JC (P:=P) (w:=w) (isSlice:=true) hb hr (Ac _);rw[run_sliceAt_slice w t _ _ _ _ Fp,run_slice_any w t _ _ _ Fp,p1,he,Result.andThen_ok,Dq hn];refine⟨_,rfl,?_⟩;have:l=0:=by omega
    subst this;have:k=0:=by omega
    subst this;rfl
 .cases h
end
end Go.Am
end
section
namespace Go.Am
open Go
section
variable{P:Program}{γ:Gh}{w:World}
theorem Gx{a:Aa}{v:Value}(h:BH γ a v)(hn:0<a.cells.length):Bb γ a.cells v.cells.toList/\∀u∈v.cells.toList,u.oneCell'=true:=by
 cases a with
 |agg cs=>obtain⟨us,rfl,p,q⟩:=h;exact⟨p,q⟩
 |tuple vs=>exact absurd hn (by simp[Aa.cells])
 |bool b=>rw[show v=_ from h];exact⟨⟨_,[],rfl,rfl,rfl⟩,by simp[Value.cells,Value.oneCell']⟩
 |int k n=>rw[show v=_ from h];exact⟨⟨_,[],rfl,rfl,rfl⟩,by simp[Value.cells,Value.oneCell']⟩
 |str s=>rw[show v=_ from h];exact⟨⟨_,[],rfl,rfl,rfl⟩,by simp[Value.cells,Value.oneCell']⟩
 |slnil=>rw[show v=_ from h];exact⟨⟨_,[],rfl,rfl,rfl⟩,by simp[Value.cells,Value.oneCell']⟩
 |nilFunc=>rw[show v=_ from h];exact⟨⟨_,[],rfl,rfl,rfl⟩,by simp[Value.cells,Value.oneCell']⟩
 |nilIface=>rw[show v=_ from h];exact⟨⟨_,[],rfl,rfl,rfl⟩,by simp[Value.cells,Value.oneCell']⟩
 |ptr p=>
  have h0:=h;cases p with
  |none=>rw[show v=_ from h];exact⟨⟨_,[],rfl,rfl,rfl⟩,by simp[Value.cells,Value.oneCell']⟩
  |some p=>obtain⟨i,o⟩:=p;obtain⟨b,_,rfl⟩:=h;exact⟨⟨_,[],rfl,h0,rfl⟩,by simp[Value.cells,Value.oneCell']⟩
 |CB cs=>have h0:=h;obtain⟨b,o,rfl,_⟩:=h;exact⟨⟨_,[],rfl,h0,rfl⟩,by simp[Value.cells,Value.oneCell']⟩
 |sl z Au=>have h0:=h;obtain⟨ad,cap,rfl,_⟩:=h;exact⟨⟨_,[],rfl,h0,rfl⟩,by simp[Value.cells,Value.oneCell']⟩
 |Ck id off len z=>have h0:=h;obtain⟨b,cap,_,rfl,_⟩:=h;exact⟨⟨_,[],rfl,h0,rfl⟩,by simp[Value.cells,Value.oneCell']⟩
 |map m=>
  have h0:=h;cases m with
  |none=>rw[show v=_ from h];exact⟨⟨_,[],rfl,rfl,rfl⟩,by simp[Value.cells,Value.oneCell']⟩
  |some id=>obtain⟨b,_,rfl⟩:=h;exact⟨⟨_,[],rfl,h0,rfl⟩,by simp[Value.cells,Value.oneCell']⟩
 |func fn f c=>have h0:=h;obtain⟨fs,cs,rfl,_⟩:=h;exact⟨⟨_,[],rfl,h0,rfl⟩,by simp[Value.cells,Value.oneCell']⟩
 |iface t a=>have h0:=h;obtain⟨u,rfl,_⟩:=h;exact⟨⟨_,[],rfl,h0,rfl⟩,by simp[Value.cells,Value.oneCell']⟩
theorem MP:∀(vs:List Value) (off j:Nat) (cells:Array Value),off+j+vs.length<=cells.size->
  (vs.zipIdx j).foldl (λcs (c,i)=>cs.setIfInBounds (off+i) c) cells=(cells.toList.take (off+j)++vs++cells.toList.drop (off+j+vs.length)).toArray
 |[],off,j,cells,h=>by simp
 |v::vs,off,j,cells,h=>by
  simp only[List.zipIdx_cons,List.foldl_cons];rw[MP vs off (j+1) _ (by simp at h⊢;omega)];simp only[Bf] at h;have hk:off+j<cells.toList.length:=by simp;omega
  have e0:(cells.setIfInBounds (off+j) v).toList=cells.toList.set (off+j) v:=by simp
  have e1:(cells.toList.set (off+j) v).take (off+j+1)=cells.toList.take (off+j)++[v]:=by rw[List.take_add_one,aId (Ac _),AG hk];rfl
  have e2:(cells.toList.set (off+j) v).drop (off+j+1+vs.length)=cells.toList.drop (off+j+1+vs.length):=List.drop_set_of_lt (by omega);rw[e0,show off+(j+1)=off+j+1 by omega,e1,e2];rw[show off+j+(v::vs).length=off+j+1+vs.length by simp;omega];simp
theorem Uw{place:Nat->Option (Nat×Nat)}:∀{places:List (Nat×Nat)} {as:List Aa} {parts:List (Nat×Value)} {cs:List Aa} {us:Array Value} {FI:List Aa},AK cs (places.zip as)=some FI->places.length=as.length->
  parts.map (λp=>place p.1)=places.map some->Bb γ as (parts.map (·.2))->Bb γ cs us.toList->(∀u∈us.toList,u.oneCell'=true)->
  ∃Dm,Instr.fill place us parts=some Dm/\Bb γ FI Dm.toList/\∀u∈Dm.toList,u.oneCell'=true
 |[],as,parts,cs,us,FI,h,hl,hp,ha,hr,h1=>by
  have:parts=[]:=by simpa using hp
  subst this;simp only[List.zip_nil_left,AK] at h;cases h;exact⟨us,rfl,hr,h1⟩
 |(off,size)::places,[],parts,cs,us,FI,h,hl,hp,ha,hr,h1=>by simp at hl
 |(off,size)::places,a::as,[],cs,us,FI,h,hl,hp,ha,hr,h1=>by simp at hp
 |(off,size)::places,a::as,(i,v)::parts,cs,us,FI,h,hl,hp,ha,hr,h1=>by
  simp only[List.zip_cons_cons,AK] at h;split at h
  .rename_i hc;obtain⟨c1,c2,c3⟩:=hc;simp only[Bm,Hu] at hp;obtain⟨_,_,e,ZD,yl⟩:=ha.K0;simp only[Bm,Hu] at e;obtain⟨e1,e2⟩:=e;subst e1;subst e2;obtain⟨q1,q2⟩:=Gx ZD (by omega);have hsz:v.cells.size=size:=by have:=q1.length;simp at this;omega
   have RG:us.size=cs.length:=by have:=hr.length;simpa using this
   have hf:=MP v.cells.toList off 0 us (by simp[hsz];omega);obtain⟨Dm,r1,r2,r3⟩:=Uw (place:=place) (us:=(us.toList.take off++v.cells.toList++us.toList.drop (off+size)).toArray) h (by simpa using hl) hp.2 yl
    (by simpa using((hr.take off).append q1).append (hr.drop (off+size)))
    (λu hu=>by
     simp only[Ap] at hu;rcases hu with(hu|hu)|hu
     .exact h1 u (Bj hu)
     .exact q2 u hu
     .exact h1 u (Bw hu))
   refine⟨Dm,?_,r2,r3⟩;rw[Instr.fill];simp only[hp.1];rw[if_neg (by simp[hsz];omega)];rw[<-r1];congr 1
   have e5:v.cells.toList.length=size:=by simpa using hsz
   rw[<-Array.foldl_toList,Array.toList_zipIdx,hf];simp[e5]
  .cases h
theorem Wu{v:Value}{a:Aa}(h:JU v=some a):Bb γ a.cells v.cells.toList/\∀u∈v.cells.toList,u.oneCell'=true:=by
 have hr:=EU (γ:=γ) h;unfold JU at h;split at h
 .rename_i cs;cases hs:KN cs.toList with
  |none=>rw[hs] at h;cases h
  |some as=>rw[hs] at h;cases h;exact LP hs
 .refine Gx hr ?_;unfold NJ at h;split at h<;>first|(cases h;simp[Aa.cells];done)|skip
  .split at h;·cases h;simp[Aa.cells]
   .cases h
  .cases h
theorem Nn{t:TypeId}{fs:Array Field}(hu:P.underlying t=some (.struct fs)){place:Nat->Option (Nat×Nat)}(ZE:∀(i:Nat) (f:Field) (n:Nat),fs[i]?=some f->BQ P f.type=some n->place i=some (f.offset,n)):
  ∀{parts:List (Nat×Operand)} {ps:List (Nat×Nat)},Jc P t parts=some ps->parts.map (λp=>place p.1)=ps.map some
 |[],ps,h=>by cases h;rfl
 |(i,x)::rest,ps,h=>by
  simp only[Jc,hu] at h;split at h
  .rename_i f hf;split at h;·rename_i n r h1 h2;cases h;simp[ZE i f n hf h1,Nn hu ZE h2]
   .cases h
  .cases h
theorem NT{t e:TypeId}{len n:Nat}(hu:P.underlying t=some (.array len e))(hn:BQ P e=some n):
  ∀{parts:List (Nat×Operand)} {ps:List (Nat×Nat)},Jc P t parts=some ps->parts.map (λp=>some (p.1*n,n))=ps.map some
 |[],ps,h=>by cases h;rfl
 |(i,x)::rest,ps,h=>by
  simp only[Jc,hu] at h;split at h
  .split at h;·rename_i n' r h1 h2;cases h;rw[hn] at h1;cases h1;simp[NT hu hn h2]
   .cases h
  .cases h
theorem SD:∀(fs:List Field),(fs.all λf=>(BQ P f.type).isSome)=true->∃places,fs.mapM (λf=>(P.info? f.type).map λi=>(f.offset,i.size))=some places/\
  ∀(i:Nat) (f:Field) (n:Nat),fs[i]?=some f->BQ P f.type=some n->places[i]?=some (f.offset,n)
 |[],_=>⟨[],rfl,by simp⟩
 |f::fs,h=>by
  simp only[List.all_cons,BK] at h;obtain⟨rest,h1,h2⟩:=SD fs h.2;cases hi:P.info? f.type with
  |none=>simp[BQ,hi] at h
  |some ti=>
   refine⟨(f.offset,ti.size)::rest,by simp[hi,h1],λi g n hg hn=>?_⟩;cases i with
   |zero=>simp at hg;subst hg;simp[BQ,hi] at hn;simp[hn]
   |succ i=>simpa using h2 i g n (by simpa using hg) hn
theorem qI{t:TypeId}{z:Aa}{parts:Array (Nat×Operand)}{ps:List (Nat×Nat)}{ρ:Operand->Value}(hz:GO P t=some z)(hp:Jc P t parts.toList=some ps)(hb:TO P t=true){as:List Aa}
  (ha:Bb γ as ((parts.toList.map (·.2)).map ρ)) {u:Aa} (h:Aw (.Bs z.cells ps) as=some u):∃v,(Instr.build t (parts.map λ(i,x)=>(i,ρ x))).run P w= .ok v w/\BH γ u v:=by
 simp only[Aw] at h;split at h
 .rename_i hl;cases hf:AK z.cells (ps.zip as) with
  |none=>rw[hf] at h;cases h
  |some cs=>
   rw[hf] at h;cases h;unfold GO at hz;cases hi:P.info? t with
   |none=>rw[hi] at hz;cases hz
   |some ti=>
    cases ZB:ti.zero with
    |none=>rw[hi] at hz;simp[ZB] at hz
    |some zv=>
     rw[hi] at hz;simp only[Ct,ZB] at hz;obtain⟨z1,z2⟩:=Wu (γ:=γ) hz;have hparts:((parts.map λ(i,x)=>(i,ρ x)).toList.map (·.2))=(parts.toList.map (·.2)).map ρ:=by simp
     unfold TO at hb;split at hb
     .rename_i fs hu;obtain⟨places,m1,m2⟩:=SD fs.toList hb;obtain⟨Dm,f1,f2,f3⟩:=Uw (place:=λi=>places.toArray[i]?) (parts:=(parts.map λ(i,x)=>(i,ρ x)).toList) hf hl
       (by have:=Nn hu (place:=λi=>places.toArray[i]?) (λi f n h1 h2=>by simpa using m2 i f n (by simpa using h1) h2) hp;rw[<-this];simp) (by rw[hparts];exact ha) z1 z2
      exact⟨.agg Dm,run_build w t _ _ (by unfold Program.built;simp only[hi,hu,ZB,m1];exact f1),Dm,rfl,f2,f3⟩
     .rename_i len e hu;cases he:P.info? e with
      |none=>simp[BQ,he] at hb
      |some ei=>
       obtain⟨Dm,f1,f2,f3⟩:=Uw (place:=λi=>some (i*ei.size,ei.size)) (parts:=(parts.map λ(i,x)=>(i,ρ x)).toList) hf hl
        (by have:=NT hu (n:=ei.size) (by simp[BQ,he]) hp;rw[<-this];simp) (by rw[hparts];exact ha) z1 z2
       exact⟨.agg Dm,run_build w t _ _ (by unfold Program.built;simp only[hi,hu,ZB,he];exact f1),Dm,rfl,f2,f3⟩
     .cases hb
 .cases h
end
end Go.Am
end
section
namespace Go.Am
open Go
def We.still:We->Bool
 | .append _ _| .By _| .s2b| .Tc=>false
 |_=>true
theorem Hg{o:uF}{dst:Option Nat}{x:Option (List Aa)}{r:Et}(h:Td o dst x=some r):∃args,x=some args/\r= .mem o args dst:=by
 unfold Td at h;split at h;·cases h;exact⟨_,rfl,rfl⟩
 .cases h
theorem J8{o:uF}{dst:Option Nat}{x:Option (List Aa)}{p:We}{args:List Aa}{d:Option Nat}{own:Bool}{dem:Option (Nat×Aa)}:¬Td o dst x=some (.op p args d own dem):=λh=>by obtain⟨_,_,e⟩:=Hg h;cases e
theorem Dy{p:We}{dst:Option Nat}{x:Option (List Aa)}{r:Et}(h:Rz p dst x=some r):∃args,x=some args/\r= .op p args dst false none:=by
 cases x with
 |none=>cases h
 |some args=>cases h;exact⟨args,rfl,rfl⟩
section
variable{C:FJ}{γ0 γ:Gh}{w0 w:World}{β:Nat->Nat}{σ:BG}{h:Ag}{a:Act}{fid:FuncId}{ops:List Oper}
def Hm(P:Program)(γ:Gh)(a:Act)(o:Oper)(w:World)(p:We)(args:List Aa):Prop:=
 ∀u,Aw p args=some u->∃v,(execOp a.eval o).run P w= .ok (.value v) w/\BH γ u v
theorem Eo{P:Program}{s:Sem Value}{v:Value}(hs:s.run P w= .ok v w):(do pure (Next.value (<-s)):Sem Next).run P w= .ok (.value v) w:=by simp[hs]
theorem eR{o:Oper}{c x y:Operand}(ho:o.op= .pick c x y)(hr:CT C γ0 w0 γ β σ h a w){args:List Aa}(ha:Br C σ [c,x,y]=some args):Hm C.P γ a o w .pick args:=by
 intro u hu;simp only[Aw] at hu;split at hu;·rename_i b p q;cases hu;obtain⟨_,_,_,e,h1,h2,h3⟩:=(Dx hr ha).SC;simp only[Bm,DR,Hu] at e;obtain⟨e1,e2,e3,_⟩:=e;rw[<-e1] at h1;rw[<-e2] at h2;rw[<-e3] at h3;refine⟨if b then a.eval x else a.eval y,?_,by cases b<;>simpa⟩;simp[execOp,ho,Qx h1,asBool]
 .cases hu
theorem qJ{o:Oper}{op:BinOp}{t:TypeId}{x y:Operand}{p:We}(hp:OC C.P op t=some p)(he:execOp a.eval o=(do pure (Next.value (<-(do eqGuard op t x y (a.eval x) (a.eval y);binOp op t (a.eval x) (a.eval y):Sem Value)))))
  (hr:CT C γ0 w0 γ β σ h a w) {args:List Aa} (ha:Br C σ [x,y]=some args):Hm C.P γ a o w p args:=by
 intro u hu;obtain⟨v,p1,p2⟩:=ZY (w:=w) hp x y (Dx hr ha) hu;exact⟨v,by rw[he];exact Eo p1,p2⟩
theorem F8(hr:CT C γ0 w0 γ β σ h a w){x:Operand}{args:List Aa}(ha:Br C σ [x]=some args):∃u,args=[u]/\BH γ u (a.eval x):=by
 have h1:=Dx hr ha;cases args with
 |nil=>cases h1
 |cons u us=>
  obtain⟨_,_,e,h2,h3⟩:=h1.K0;cases e;cases us with
  |nil=>exact⟨u,rfl,h2⟩
  |cons _ _=>obtain⟨_,_,e,_⟩:=h3.K0;cases e
theorem Fe(hr:CT C γ0 w0 γ β σ h a w){x y:Operand}{args:List Aa}(ha:Br C σ [x,y]=some args):∃u v,args=[u,v]/\BH γ u (a.eval x)/\BH γ v (a.eval y):=by
 have h1:=Dx hr ha;cases args with
 |nil=>cases h1
 |cons u us=>
  obtain⟨_,_,e,h2,h3⟩:=h1.K0;cases e;cases us with
  |nil=>cases h3
  |cons v vs=>
   obtain⟨_,_,e,h4,h5⟩:=h3.K0;cases e;cases vs with
   |nil=>exact⟨u,v,rfl,h2,h4⟩
   |cons _ _=>obtain⟨_,_,e,_⟩:=h5.K0;cases e
theorem uZ{o:Oper}{op:UnOp}{x:Operand}(he:execOp a.eval o=(do pure (Next.value (<-Op.unary op (a.eval x)))))
  (hr:CT C γ0 w0 γ β σ h a w) {args:List Aa} (ha:Br C σ [x]=some args):Hm C.P γ a o w (.un op) args:=by
 intro u hu;obtain⟨v,rfl,h1⟩:=F8 hr ha;simp only[Aw] at hu;obtain⟨r,p1,p2⟩:=yk (P:=C.P) (w:=w) h1 hu;exact⟨r,by rw[he];exact Eo p1,p2⟩
theorem eS{o:Oper}{src dst:TypeId}{k l:IntKind}{x:Operand}(hs:C.P.underlying src=some (.int l))(hd:C.P.underlying dst=some (.int k))(he:execOp a.eval o=(do pure (Next.value (<-convert src dst (a.eval x)))))
  (hr:CT C γ0 w0 γ β σ h a w) {args:List Aa} (ha:Br C σ [x]=some args):Hm C.P γ a o w (.conv k) args:=by
 intro u hu;obtain⟨v,rfl,h1⟩:=F8 hr ha;simp only[Aw] at hu;split at hu;·rename_i e;cases e;cases hu;rw[D5 h1] at he;exact⟨_,by rw[he];exact Eo (X8 hs hd),rfl⟩
 .cases hu
theorem qK{o:Oper}{src dst:TypeId}{l:IntKind}{x:Operand}(hs:C.P.underlying src=some (.int l))(hd:C.P.underlying dst=some .string)(he:execOp a.eval o=(do pure (Next.value (<-convert src dst (a.eval x)))))
  (hr:CT C γ0 w0 γ β σ h a w) {args:List Aa} (ha:Br C σ [x]=some args):Hm C.P γ a o w .i2s args:=by
 intro u hu;obtain⟨v,rfl,h1⟩:=F8 hr ha;simp only[Aw] at hu;split at hu;·rename_i e;cases e;cases hu;rw[D5 h1] at he;exact⟨_,by rw[he];exact Eo (X9 hs hd),rfl⟩
 .cases hu
theorem Z0{o:Oper}{t:TypeId}{x:Operand}{f off:Nat}{sh:Option Nat}(hf:HG C.P t f=some (off,sh))(he:execOp a.eval o=(do pure (Next.value (<-Instr.field t (a.eval x) f))))
  (hr:CT C γ0 w0 γ β σ h a w) {args:List Aa} (ha:Br C σ [x]=some args):Hm C.P γ a o w (.part off sh) args:=by
 intro u hu;obtain⟨v,rfl,h1⟩:=F8 hr ha;simp only[Aw] at hu;split at hu;·rename_i e;cases e;obtain⟨r,p1,p2⟩:=qG (w:=w) hf h1 hu;exact⟨r,by rw[he];exact Eo p1,p2⟩
 .cases hu
theorem Ti{o:Oper}{t:TypeId}{x:Operand}{f off:Nat}{sh:Option Nat}(hf:HG C.P t f=some (off,sh))(he:execOp a.eval o=(do pure (Next.value (<-Instr.fieldAt t (a.eval x) f))))
  (hr:CT C γ0 w0 γ β σ h a w) {args:List Aa} (ha:Br C σ [x]=some args):Hm C.P γ a o w (.Ec off) args:=by
 intro u hu;obtain⟨v,rfl,h1⟩:=F8 hr ha;simp only[Aw] at hu;obtain⟨r,p1,p2⟩:=ZZ (w:=w) hf h1 hu;exact⟨r,by rw[he];exact Eo p1,p2⟩
theorem qL{o:Oper}{x:Operand}{i:Nat}(he:execOp a.eval o=(do pure (Next.value (<-Instr.extract (a.eval x) i))))
  (hr:CT C γ0 w0 γ β σ h a w) {args:List Aa} (ha:Br C σ [x]=some args):Hm C.P γ a o w (.ext i) args:=by
 intro u hu;obtain⟨v,rfl,h1⟩:=F8 hr ha;simp only[Aw] at hu;split at hu;·rename_i e;cases e;obtain⟨r,p1,p2⟩:=e_ (P:=C.P) (w:=w) h1 hu;exact⟨r,by rw[he];exact Eo p1,p2⟩
 .cases hu
theorem Tj{o:Oper}{t:TypeId}{x y:Operand}(ht:C.P.underlying t=some .string)(he:execOp a.eval o=(do pure (Next.value (<-Instr.index t (a.eval x) (a.eval y)))))
  (hr:CT C γ0 w0 γ β σ h a w) {args:List Aa} (ha:Br C σ [x,y]=some args):Hm C.P γ a o w .Rw args:=by
 intro u hu;obtain⟨p,q,rfl,h1,h2⟩:=Fe hr ha;simp only[Aw] at hu;split at hu
 .rename_i e;cases e;split at hu
  .rename_i s k i h0;cases hb:s[i.toNat]? with
   |none=>rw[hb] at hu;cases hu
   |some b=>rw[hb] at hu;cases hu;rw[MN h1,D5 h2] at he;exact⟨_,by rw[he];exact Eo (Wt ht h0 hb),rfl⟩
  .cases hu
 .cases hu
theorem Tk{o:Oper}{t e:TypeId}{len n:Nat}{sh:Option Nat}{x y:Operand}(ht:C.P.underlying t=some (.array len e))(hn:BQ C.P e=some n)(dR:EP C.P e=some sh)(he:execOp a.eval o=(do pure (Next.value (<-Instr.index t (a.eval x) (a.eval y)))))
  (hr:CT C γ0 w0 γ β σ h a w) {args:List Aa} (ha:Br C σ [x,y]=some args):Hm C.P γ a o w (.xr len n sh) args:=by
 intro u hu;obtain⟨p,q,rfl,h1,h2⟩:=Fe hr ha;simp only[Aw] at hu;split at hu
 .rename_i e;cases e;rename_i cs k i;cases hb:L4 i len with
  |none=>rw[hb] at hu;cases hu
  |some j=>rw[hb] at hu;simp only[Ct] at hu;rw[D5 h2] at he;obtain⟨r,p1,p2⟩:=Ws (w:=w) (k:=k) ht hn dR h1 hb hu;exact⟨r,by rw[he];exact Eo p1,p2⟩
 .cases hu
theorem Ux{o:Oper}{t e:TypeId}{n:Nat}{x y:Operand}(ht:C.P.underlying t=some (.slice e))(hn:BQ C.P e=some n)(he:execOp a.eval o=(do pure (Next.value (<-Instr.indexAt t (a.eval x) (a.eval y)))))
  (hr:CT C γ0 w0 γ β σ h a w) {args:List Aa} (ha:Br C σ [x,y]=some args):Hm C.P γ a o w (.EE n) args:=by
 intro u hu;obtain⟨p,q,rfl,h1,h2⟩:=Fe hr ha;simp only[Aw] at hu;split at hu;·rename_i e;cases e;rename_i k i;rw[D5 h2] at he;obtain⟨r,p1,p2⟩:=eO (w:=w) (k:=k) ht hn h1 hu;exact⟨r,by rw[he];exact Eo p1,p2⟩
 .cases hu
theorem Wv{o:Oper}{t e:TypeId}{len n:Nat}{x y:Operand}(ht:C.P.underlying t=some (.array len e))(hn:BQ C.P e=some n)(he:execOp a.eval o=(do pure (Next.value (<-Instr.indexAt t (a.eval x) (a.eval y)))))
  (hr:CT C γ0 w0 γ β σ h a w) {args:List Aa} (ha:Br C σ [x,y]=some args):Hm C.P γ a o w (.Uc len n) args:=by
 intro u hu;obtain⟨p,q,rfl,h1,h2⟩:=Fe hr ha;simp only[Aw] at hu;split at hu
 .rename_i e;cases e;rename_i k i;cases hb:L4 i len with
  |none=>rw[hb] at hu;cases hu
  |some j=>rw[hb] at hu;simp only[Ct] at hu;rw[D5 h2] at he;obtain⟨r,p1,p2⟩:=qH (w:=w) (k:=k) ht hn h1 hb hu;exact⟨r,by rw[he];exact Eo p1,p2⟩
 .cases hu
theorem SE{o:Oper}{t:TypeId}{x:Operand}{lo hi:Option Operand}{isStr:Bool}{size:Nat}(ht:if isStr=true then C.P.underlying t=some .string else∃e,C.P.underlying t=some (.slice e)/\BQ C.P e=some size)
  (he:execOp a.eval o=(do pure (Next.value (<-Instr.sliceAt t (a.eval x) (lo.map a.eval) (hi.map a.eval) none))))
  (hr:CT C γ0 w0 γ β σ h a w) {args:List Aa} (ha:Br C σ (x::(lo.toList++hi.toList))=some args):Hm C.P γ a o w (.Hv size isStr lo.isSome hi.isSome) args:=by
 intro u hu;have h1:=Dx hr ha;cases args with
 |nil=>cases h1
 |cons s as=>obtain⟨_,_,e,h2,h3⟩:=h1.K0;cases e;simp only[Aw] at hu;obtain⟨r,p1,p2⟩:=fc (P:=C.P) (w:=w) (lo:=lo.map a.eval) (hi:=hi.map a.eval) ht h2 (by cases lo<;>cases hi<;>simpa using h3) (by simpa using hu);exact⟨r,by rw[he];exact Eo p1,p2⟩
theorem Z3{o:Oper}{t:TypeId}{parts:Array (Nat×Operand)}{z:Aa}{ps:List (Nat×Nat)}(hz:GO C.P t=some z)(hp:Jc C.P t parts.toList=some ps)(hb:TO C.P t=true)
  (he:execOp a.eval o=(do pure (Next.value (<-Instr.build t (parts.map λ(i,x)=>(i,a.eval x))))))
  (hr:CT C γ0 w0 γ β σ h a w) {args:List Aa} (ha:Br C σ (parts.toList.map (·.2))=some args):Hm C.P γ a o w (.Bs z.cells ps) args:=by
 intro u hu;obtain⟨r,p1,p2⟩:=qI (w:=w) hz hp hb (Dx hr ha) hu;exact⟨r,by rw[he];exact Eo p1,p2⟩
theorem Ya{o:Oper}{x:Operand}(ho:o.op= .nilCheck x)(hr:CT C γ0 w0 γ β σ h a w){args:List Aa}(ha:Br C σ [x]=some args):Hm C.P γ a o w .KV args:=by
 intro u hu;obtain⟨v,rfl,h1⟩:=F8 hr ha;simp only[Aw,ZM] at hu;split at hu;·rename_i p;cases hu;obtain⟨i,k⟩:=p;obtain⟨b,hb,hv⟩:=h1;exact⟨_,by simp only[execOp,ho,hv];rfl,b,hb,rfl⟩
 .cases hu;obtain⟨b,k,hv,hm⟩:=h1;exact⟨_,by simp only[execOp,ho,hv];rfl,b,k,rfl,hm⟩
 .cases hu;obtain⟨fs,cs,hv,p,q⟩:=h1;exact⟨_,by simp only[execOp,ho,hv];rfl,fs,cs,rfl,p,q⟩
 .cases hu
theorem LQ:∀{xs:List Operand} {us:List Aa},Br C σ xs=some us->us.length=xs.length
 |[],us,h=>by cases h;rfl
 |x::xs,us,h=>by
  unfold Br at h;split at h;·rename_i u Dm h1 h2;cases h;simp[LQ h2]
  .cases h
theorem MQ{P:Program}{o:Oper}{c:Call}{b:Builtin}{s:Sem Value}(ho:o.op= .call c)(hc:c.callee= .builtin b)(hs:builtin b c.argTypes o.type (c.args.map λ| .const _=>true|_=>false) (c.args.map a.eval)=(do pure (Next.value (<-s)))){v:Value}
  (hv:s.run P w= .ok v w):(execOp a.eval o).run P w= .ok (.value v) w:=by
 have:execOp a.eval o=(do pure (Next.value (<-s))):=by rw[<-hs];simp only[execOp,ho,resolve,hc];rfl
 rw[this];exact Eo hv
theorem W9{o:Oper}{c:Call}{t:TypeId}{isStr:Bool}(ho:o.op= .call c)(hc:c.callee= .builtin .len)(h0:c.argTypes[0]?=some t)(ht:if isStr=true then C.P.underlying t=some .string else∃e,C.P.underlying t=some (.slice e))
  (hr:CT C γ0 w0 γ β σ h a w) {args:List Aa} (ha:Br C σ c.args.toList=some args):Hm C.P γ a o w (.len isStr) args:=by
 intro u hu;simp only[Aw] at hu;split at hu
 .rename_i s;have hl:=LQ ha;obtain⟨x,hx⟩:∃x,c.args.toList=[x]:=List.length_eq_one_iff.1 hl.symm;rw[hx] at ha;obtain⟨_,e,h1⟩:=F8 hr ha;cases e;obtain⟨r,p1,p2⟩:=ez (P:=C.P) (w:=w) (ty:=o.type) ht h0 h1 hu;have e:c.args.map a.eval=#[a.eval x]:=by apply Jm;simp[hx]
  exact⟨r,MQ ho hc (s:=Builtin.len_ c.argTypes o.type #[a.eval x]) (by rw[e];rfl) p1,p2⟩
 .cases hu
theorem Qy{o:Oper}{c:Call}{isMax:Bool}(ho:o.op= .call c)(hc:c.callee= .builtin (if isMax then .max else .min))(hr:CT C γ0 w0 γ β σ h a w){args:List Aa}(ha:Br C σ c.args.toList=some args):Hm C.P γ a o w (.Kn isMax) args:=by
 intro u hu;simp only[Aw] at hu;split at hu
 .rename_i k p l q;split at hu
  .rename_i hk;subst hk;cases hu;have hl:=LQ ha;obtain⟨x,y,hx⟩:∃x y,c.args.toList=[x,y]:=by
    cases hq:c.args.toList with
    |nil=>rw[hq] at hl;simp at hl
    |cons x xs=>cases xs with
     |nil=>rw[hq] at hl;simp at hl
     |cons y ys=>cases ys with
      |nil=>exact⟨x,y,rfl⟩
      |cons _ _=>rw[hq] at hl;simp at hl
   rw[hx] at ha;obtain⟨_,_,e,h1,h2⟩:=Fe hr ha;cases e;have e:c.args.map a.eval=#[.int k p,.int k q]:=by apply Jm;simp[hx,D5 h1,D5 h2]
   cases isMax with
   |true=>exact⟨_,MQ ho hc (s:=Builtin.max_ c.argTypes o.type #[.int k p,.int k q]) (by rw[e];rfl) (by simp[Builtin.max_,Builtin.max2]),rfl⟩
   |false=>exact⟨_,MQ ho hc (s:=Builtin.min_ c.argTypes o.type #[.int k p,.int k q]) (by rw[e];rfl) (by simp[Builtin.min_,Builtin.min2]),rfl⟩
  .cases hu
 .cases hu
end
end Go.Am
end
section
namespace Go.Am
open Go
section
variable{C:FJ}{γ0 γ:Gh}{w0 w:World}{β:Nat->Nat}{σ:BG}{h:Ag}{a:Act}{fid:FuncId}{ops:List Oper}
theorem Lw{x:Operand}{d:Nat}{take:Bool}{r:Et}(h:Jz C σ x d take=some r):∃ws,r= .pure ws:=by
 unfold Jz at h;split at h;·cases h;exact⟨_,rfl⟩
 .cases h;exact⟨_,rfl⟩
 .split at h;·cases h;exact⟨_,rfl⟩
  .cases hc:HH _ with
   |none=>rw[hc] at h;cases h
   |some s=>rw[hc] at h;cases h;exact⟨_,rfl⟩
 .cases hc:HH _ with
  |none=>rw[hc] at h;cases h
  |some s=>rw[hc] at h;cases h;exact⟨_,rfl⟩
 .cases h
theorem Xa{t:TypeId}{v:Aa}{d:Nat}{p:We}{args:List Aa}{dst:Option Nat}{own:Bool}{dem:Option (Nat×Aa)}:Sx C fid t v d≠some (.op p args dst own dem):=by
 unfold Sx;intro h;split at h;·cases h
 .split at h;·cases h
  .split at h<;>cases h
theorem eT{t:TypeId}{x:Operand}{d:Nat}{take:Bool}{p:We}{args:List Aa}{dst:Option Nat}{own:Bool}{dem:Option (Nat×Aa)}:Kr C σ t x d take≠some (.op p args dst own dem):=by
 unfold Kr;intro h;split at h;·cases h
 .split at h;·simp only at h;split at h<;>cases h
  .cases h
 .split at h<;>cases h
 .cases h
theorem Z4{t:TypeId}{x y:Operand}{p:We}{args:List Aa}{dst:Option Nat}{own:Bool}{dem:Option (Nat×Aa)}:ID C σ t x y≠some (.op p args dst own dem):=by
 unfold ID;intro h;split at h;·cases h
 .split at h<;>cases h
 .cases h
theorem qM{o:Oper}{p:We}{args:List Aa}{dst:Option Nat}{own:Bool}{dem:Option (Nat×Aa)}(hc:Fv C fid ops σ o=some (.op p args dst own dem))(hst:p.still=true)(hr:CT C γ0 w0 γ β σ h a w):
  Hm C.P γ a o w p args/\dst=o.dst/\own=false/\dem=none:=by
 unfold Fv at hc
 split at hc
 .split at hc
  .obtain⟨ws,e⟩:=Lw hc;cases e
  .cases hc
 .split at hc
  .obtain⟨ws,e⟩:=Lw hc;cases e
  .cases hc
 .rename_i c x y ho
  split at hc
  .obtain⟨ws,e⟩:=Lw hc;cases e
  .obtain⟨ws,e⟩:=Lw hc;cases e
  .obtain⟨as,e1,e2⟩:=Dy hc
   cases e2
   exact⟨eR ho hr e1,rfl,rfl,rfl⟩
 .split at hc
  .split at hc
   .split at hc<;>cases hc
   .exact absurd hc Xa
  .cases hc
 .split at hc
  .exact absurd hc Xa
  .cases hc
 .rename_i t parts ho
  split at hc
  .rename_i z ps hz hp
   split at hc
   .rename_i hb
    obtain⟨as,e1,e2⟩:=Dy hc
    cases e2
    exact⟨Z3 hz hp hb (by simp[execOp,ho]) hr e1,rfl,rfl,rfl⟩
   .cases hc
  .cases hc
 .split at hc
  .split at hc
   .split at hc
    .cases hq:Br C σ _ with
     |none=>rw[hq] at hc;cases hc
     |some q=>rw[hq] at hc;cases hc;cases hst
    .cases hc
   .cases hc
  .cases hc
 .split at hc
  .exact absurd hc eT
  .cases hc
 .split at hc
  .exact absurd hc Z4
  .cases hc
 .rename_i x ho
  split at hc
  .cases hc
  .cases hc
  .obtain⟨as,e1,e2⟩:=Dy hc
   cases e2
   exact⟨Ya ho hr e1,rfl,rfl,rfl⟩
 .rename_i op t x y k ho
  split at hc
  .rename_i q hq
   obtain⟨as,e1,e2⟩:=Dy hc
   cases e2
   exact⟨qJ hq (by simp[execOp,ho]) hr e1,rfl,rfl,rfl⟩
  .cases hc
 .rename_i op t x ho
  obtain⟨as,e1,e2⟩:=Dy hc
  cases e2
  exact⟨uZ (by simp[execOp,ho]) hr e1,rfl,rfl,rfl⟩
 .rename_i src aI3 x ho
  split at hc
  .cases hq:Eu C σ x with
   |none=>rw[hq] at hc;cases hc
   |some q=>rw[hq] at hc;cases hc
  .split at hc
   .cases hq:Eu C σ x with
    |none=>rw[hq] at hc;cases hc
    |some q=>rw[hq] at hc;cases hc
   .obtain⟨as,e1,e2⟩:=Dy hc
    cases e2;cases hst
  .rename_i q LR Rs hq
   obtain⟨as,e1,e2⟩:=Dy hc
   cases e2
   refine⟨?_,rfl,rfl,rfl⟩
   unfold Ul at hq
   split at hq
   .rename_i hs hd
    cases hq
    exact eS hs hd (by simp[execOp,ho]) hr e1
   .rename_i hs hd
    cases hq
    exact qK hs hd (by simp[execOp,ho]) hr e1
   .cases hq
   .split at hq
    .cases hq;cases hst
    .cases hq
   .split at hq
    .cases hq;cases hst
    .cases hq
   .cases hq
  .cases hc
 .split at hc
  .cases hc
  .cases hc
 .cases hc
 .split at hc
  .split at hc<;>cases hc
  .cases hc
 .split at hc
  .split at hc<;>cases hc
  .cases hc
 .split at hc
  .split at hc<;>cases hc
  .cases hc
 .split at hc
  .split at hc<;>cases hc
  .cases hc
 .split at hc
  .split at hc
   .exact absurd hc J8
   .cases hc
  .cases hc
 .split at hc
  .cases hc
  .exact absurd hc J8
  .cases hc
 .split at hc
  .split at hc
   .exact absurd hc J8
   .cases hc
  .cases hc
 .split at hc
  .exact absurd hc J8
  .cases hc
 .rename_i t x lo hi ho
  split at hc
  .rename_i ht
   obtain⟨as,e1,e2⟩:=Dy hc
   cases e2
   exact⟨SE (isStr:=true) ht (by simp[execOp,ho]) hr e1,rfl,rfl,rfl⟩
  .rename_i e ht
   split at hc
   .rename_i n hn
    split at hc
    .exact absurd hc J8
    .obtain⟨as,e1,e2⟩:=Dy hc
     cases e2
     exact⟨SE (isStr:=false) ⟨e,ht,hn⟩ (by simp[execOp,ho]) hr e1,rfl,rfl,rfl⟩
   .cases hc
  .cases hc
 .rename_i t x f ho
  split at hc
  .rename_i off sh d hf hd
   split at hc
   .cases hc
   .cases hc
   .obtain⟨as,e1,e2⟩:=Dy hc
    cases e2
    exact⟨Ti hf (by simp[execOp,ho]) hr e1,hd.symm,rfl,rfl⟩
  .cases hc
 .rename_i t x f ho
  split at hc
  .rename_i off sh hf
   obtain⟨as,e1,e2⟩:=Dy hc
   cases e2
   exact⟨Z0 hf (by simp[execOp,ho]) hr e1,rfl,rfl,rfl⟩
  .cases hc
 .rename_i t x i ho
  split at hc
  .rename_i e ht
   split at hc
   .rename_i n hn
    obtain⟨as,e1,e2⟩:=Dy hc
    cases e2
    exact⟨Ux ht hn (by simp[execOp,ho]) hr e1,rfl,rfl,rfl⟩
   .cases hc
  .rename_i len e ht
   split at hc
   .rename_i n hn
    split at hc
    .cases hc
    .obtain⟨as,e1,e2⟩:=Dy hc
     cases e2
     exact⟨Wv ht hn (by simp[execOp,ho]) hr e1,rfl,rfl,rfl⟩
   .cases hc
  .cases hc
 .rename_i t x i ho
  split at hc
  .rename_i ht
   obtain⟨as,e1,e2⟩:=Dy hc
   cases e2
   exact⟨Tj ht (by simp[execOp,ho]) hr e1,rfl,rfl,rfl⟩
  .rename_i len e ht
   split at hc
   .rename_i n sh hn dR
    obtain⟨as,e1,e2⟩:=Dy hc
    cases e2
    exact⟨Tk ht hn dR (by simp[execOp,ho]) hr e1,rfl,rfl,rfl⟩
   .cases hc
  .cases hc
 .rename_i x i ho
  obtain⟨as,e1,e2⟩:=Dy hc
  cases e2
  exact⟨qL (by simp[execOp,ho]) hr e1,rfl,rfl,rfl⟩
 .rename_i c ho
  unfold PG at hc
  split at hc
  .rename_i hcl
   split at hc
   .rename_i t h0
    split at hc
    .rename_i ht
     obtain⟨as,e1,e2⟩:=Dy hc
     cases e2
     exact⟨W9 (isStr:=true) ho hcl h0 ht hr e1,rfl,rfl,rfl⟩
    .rename_i e ht
     obtain⟨as,e1,e2⟩:=Dy hc
     cases e2
     exact⟨W9 (isStr:=false) ho hcl h0 ⟨e,ht⟩ hr e1,rfl,rfl,rfl⟩
    .cases hc
   .cases hc
  .split at hc
   .split at hc
    all_goals first
     |(cases hc;done)
     | (split at hc
        . split at hc
          . split at hc
            . split at hc
              . split at hc
                . cases hc
                . split at hc
                  . cases hc
                  . cases hc; cases hst
              . split at hc <;> cases hc
            . cases hc
          . cases hc
        . cases hc)
   .cases hc
  .split at hc
   .split at hc
    all_goals first
     |(cases hc;done)
     | (split at hc
        . exact absurd hc J8
        . cases hc)
   .cases hc
  .split at hc
   .split at hc
    .split at hc
     .exact absurd hc J8
     .cases hc
    .cases hc
   .cases hc
  .rename_i hcl
   split at hc
   .obtain⟨as,e1,e2⟩:=Dy hc
    cases e2
    exact⟨Qy (isMax:=true) ho hcl hr e1,rfl,rfl,rfl⟩
   .cases hc
  .rename_i hcl
   split at hc
   .obtain⟨as,e1,e2⟩:=Dy hc
    cases e2
    exact⟨Qy (isMax:=false) ho hcl hr e1,rfl,rfl,rfl⟩
   .cases hc
  .split at hc
   .split at hc
    .split at hc
     .exact absurd hc J8
     .cases hc
    .cases hc
   split at hc
   .cases hq:Br C σ c.args.toList with
    |none=>rw[hq] at hc;cases hc
    |some q=>
     rw[hq] at hc
     simp only[BT,BF] at hc
     split at hc<;>cases hc
   .cases hc
  .split at hc<;>cases hc
  .cases hc
 .cases hc
end
end Go.Am
end
