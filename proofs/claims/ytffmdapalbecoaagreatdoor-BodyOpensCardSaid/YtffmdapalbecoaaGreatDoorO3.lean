/- Lemmas -/
import Derived.Test.YtffmdapalbecoaaGreatDoorO2
import Derived.Laws.Slices
set_option linter.all false
open Option renaming some→zz,none→zy
open Go.Next renaming value→zx
open Go.Value renaming slice→zw,string→zp,pointer→zn,nilFunc→zj,int→zf,bool→zb
open Go.Op renaming equalIn→zu
open Go.Program renaming elem→zt
open Go.Result renaming ok→z0
open List renaming length→zr
open Go.Instr renaming sliceBounds→zq,index→zi,indexAt→ze
open Bool renaming true→zo,false→zl
open Go.Builtin renaming len_→zm
open Go.Addr renaming add→zd
section
namespace Go.Am
open Go
section
variable{P:Program}{γ:Gh}{w:World}
def Tx{a:Bool}{v:Value}(h:BT γ (.bool a) v):v= zb a:=h
def EW{k:IntKind}{a:Int}{v:Value}(h:BT γ (.int k a) v):v= zf k a:=h
def OY{a:Ai}{v:Value}(h:BT γ (.str a) v):v= zp ⟨⟨a⟩⟩:=h
def Bp.ŉ{us:List Value}(h:Bp γ [] us):us=[]:=h
def Bp.MS{a:Aa}{l:List Aa}{us:List Value}(h:Bp γ (a::l) us):∃u D4,us=u::D4/\BT γ a u/\Bp γ l D4:=h
def Bp.one{a:Aa}{us:List Value}(h:Bp γ [a] us):∃u,us=[u]/\BT γ a u:=by obtain⟨u,D4,rfl,h1,h2⟩:=h;rw[h2.ŉ];exact⟨u,rfl,h1⟩
def Bp.KZ{a b:Aa}{us:List Value}(h:Bp γ [a,b] us):∃u v,us=[u,v]/\BT γ a u/\BT γ b v:=by obtain⟨u,D4,rfl,h1,h2⟩:=h;obtain⟨v,rfl,c⟩:=h2.one;grind
def Bp.VR{a b c:Aa}{us:List Value}(h:Bp γ [a,b,c] us):∃u v x,us=[u,v,x]/\BT γ a u/\BT γ b v/\BT γ c x:=by obtain⟨u,D4,rfl,h1,h2⟩:=h;obtain⟨v,x,rfl,e,d⟩:=h2.KZ;grind
def Value.KI:Value->Bool
 | zb _| zn _| zw _ _ _| .func _ _ _| zj| .map _=>zo
 |_=>zl
section
variable{op:BinOp}{neg:Bool}(OQ:(op= .eql/\neg=false)\/(op= .neq/\neg=true))(t:TypeId)
def U7(c b:Operand){x y:Value}(hx:Value.KI x=zo)(hy:Value.KI y=zo){e:Bool}
  (he:(Op.equal t x y).run P w= z0 e w):(do eqGuard op t c b x y;binOp op t x y:Sem Value).run P w= z0 (zb (e != neg)) w:=by
 have hg:eqGuard op t c b x y=pure ():=by rcases OQ with⟨rfl,_⟩|⟨rfl,_⟩<;>cases x<;>simp[Value.KI] at hx<;>rfl
 rw[hg];rcases OQ with⟨rfl,rfl⟩|⟨rfl,rfl⟩
 .have hb:binOp .eql t x y=(do pure (zb (<-Op.equal t x y))):=by cases x<;>simp[Value.KI] at hx<;>cases y<;>simp[Value.KI] at hy<;>rfl
  simp[hb,he]
 .have hb:binOp .neq t x y=(do pure (zb (!(<-Op.equal t x y)))):=by cases x<;>simp[Value.KI] at hx<;>cases y<;>simp[Value.KI] at hy<;>rfl
  simp[hb,he]
def qH(d c:Operand)(ht:P.underlying t=zz .bool)(a b:Bool):
  (do eqGuard op t d c (zb a) (zb b);binOp op t (zb a) (zb b):Sem Value).run P w= z0 (zb ((a==b) != neg)) w:=
 U7 OQ t d c rfl rfl (run_equalIn_bool' w 9999 t a b ht)
end
section
variable{d:Nat}
def WU{t e:TypeId}(ht:P.underlying t=zz (.pointer e))(hz:∃n,B7 P e=zz (n+1)){a b:Aa}{x y:Value}(hx:BT γ a x)(hy:BT γ b y){r:Bool}(h:da a b=zz r):
  (zu (d+1) t x y).run P w= .ok r w/\Value.KI x=zo/\Value.KI y=zo:=by
 obtain⟨n,hn⟩:=hz;unfold da at h;split at h
 .rename_i q;cases h;rw[show x= .pointer none from hx];have:∃p,y= .pointer p/\p.isNone=q.isNone:=by
   cases q with
   |none=>exact⟨none,hy,rfl⟩
   |some p=>obtain⟨i,o⟩:=p;obtain⟨b,_,rfl⟩:=hy;exact⟨_,rfl,rfl⟩
  obtain⟨p,rfl,hp⟩:=this;exact⟨by simp[Op.equalIn,run_underlying ht,hp],rfl,rfl⟩
 .rename_i p;cases h;obtain⟨i,o⟩:=p;obtain⟨b,_,rfl⟩:=hx;rw[show y= .pointer none from hy];exact⟨by simp[Op.equalIn,run_underlying ht],rfl,rfl⟩
 .rename_i p q;split at h;.rename_i he;cases h;subst he;obtain⟨i,o⟩:=p;obtain⟨b,hb,rfl⟩:=hx;obtain⟨b',Te,rfl⟩:=hy;rw[hb] at Te;cases Te;exact⟨by simp[Op.equalIn,run_underlying ht,D7 hn,sameAddr],rfl,rfl⟩
  .cases h
 .cases h;rw[show x= .pointer none from hx];obtain⟨b,o,rfl,_⟩:=hy;exact⟨by simp[Op.equalIn,run_underlying ht],rfl,rfl⟩
 .cases h;rw[show y= .pointer none from hy];obtain⟨b,o,rfl,_⟩:=hx;exact⟨by simp[Op.equalIn,run_underlying ht],rfl,rfl⟩
 .cases h
def E9{t e:TypeId}(ht:P.underlying t=zz (.slice e)){p q:Option Addr}{n c m k:Nat}(h:p=zy\/q=zy):
  (zu (d+1) t (zw p n c) (zw q m k)).run P w= z0 (p.isNone&&q.isNone) w:=by
 cases p<;>cases q<;>simp at h<;>simp[zu,run_underlying ht]
def MT{t:TypeId}{a b:Array TypeId}{c:Bool}(ht:P.underlying t=zz (.func a b c)){f:Fn}{x y:Array Value}:
  (zu (d+1) t .nilFunc .nilFunc).run P w= .ok zo w/\(zu (d+1) t .nilFunc (.func f x y)).run P w= .ok zl w/\(zu (d+1) t (.func f x y) .nilFunc).run P w= .ok zl w:=by
 refine⟨?_,?_,?_⟩<;>simp[zu,run_underlying ht]
def Mf{t k e:TypeId}(ht:P.underlying t=zz (.map k e)){p q:Option Nat}(h:p=zy\/q=zy):
  (zu (d+1) t (.map p) (.map q)).run P w= z0 (p.isNone&&q.isNone) w:=by
 cases p<;>cases q<;>simp at h<;>simp[zu,run_underlying ht]
def WV{t:TypeId}{k:NK}(ht:match k with| .sl=>∃e,P.underlying t=zz (.slice e)| .fn=>∃a b c,P.underlying t=zz (.func a b c)| .mp=>∃a b,P.underlying t=zz (.map a b))
  {a b:Aa} {x y:Value} (hx:BT γ a x) (hy:BT γ b y) {r:Bool} (h:db k a b=zz r):
  (zu (d+1) t x y).run P w= z0 r w/\Value.KI x=zo/\Value.KI y=zo:=by
 unfold db at h;split at h;case h_1=>let⟨e,ht⟩:=ht;cases h;rw[show x= zw zy 0 0 from hx,show y= zw zy 0 0 from hy];exact⟨E9 ht (.inl rfl),rfl,rfl⟩
 case h_2=>let⟨e,ht⟩:=ht;cases h;rw[show x= zw zy 0 0 from hx];obtain⟨_,_,rfl,_⟩:=hy;exact⟨E9 ht (.inl rfl),rfl,rfl⟩
 case h_3=>let⟨e,ht⟩:=ht;cases h;rw[show y= zw zy 0 0 from hy];obtain⟨_,_,rfl,_⟩:=hx;exact⟨E9 ht (.inr rfl),rfl,rfl⟩
 case h_4=>let⟨e,ht⟩:=ht;cases h;rw[show x= zw zy 0 0 from hx];obtain⟨_,rfl⟩:=hy;exact⟨E9 ht (.inl rfl),rfl,rfl⟩
 case h_5=>let⟨e,ht⟩:=ht;cases h;rw[show y= zw zy 0 0 from hy];obtain⟨_,rfl⟩:=hx;exact⟨E9 ht (.inr rfl),rfl,rfl⟩
 case h_6=>let⟨e,ht⟩:=ht;cases h;rw[show x= zw zy 0 0 from hx];obtain⟨_,_,_,rfl,_⟩:=hy;exact⟨E9 ht (.inl rfl),rfl,rfl⟩
 case h_7=>let⟨e,ht⟩:=ht;cases h;rw[show y= zw zy 0 0 from hy];obtain⟨_,_,_,rfl,_⟩:=hx;exact⟨E9 ht (.inr rfl),rfl,rfl⟩
 case h_8=>let⟨_,_,_,ht⟩:=ht;cases h;rw[show x= zj from hx,show y= zj from hy];exact⟨(MT ht (f:= .func 0) (x:=#[]) (y:=#[])).1,rfl,rfl⟩
 case h_9=>let⟨_,_,_,ht⟩:=ht;cases h;rw[show x= zj from hx];obtain⟨_,_,rfl,_⟩:=hy;exact⟨(MT ht).2.1,rfl,rfl⟩
 case h_10=>let⟨_,_,_,ht⟩:=ht;cases h;rw[show y= zj from hy];obtain⟨_,_,rfl,_⟩:=hx;exact⟨(MT ht).2.2,rfl,rfl⟩
 case h_11=>
  rename_i q;let⟨_,_,ht⟩:=ht;cases h;rw[show x= .map zy from hx];cases q with
  |none=>rw[show y= .map zy from hy];exact⟨Mf ht (.inl rfl),rfl,rfl⟩
  |some id=>obtain⟨b,_,rfl⟩:=hy;exact⟨Mf ht (.inl rfl),rfl,rfl⟩
 case h_12=>let⟨_,_,ht⟩:=ht;cases h;rw[show y= .map zy from hy];obtain⟨b,_,rfl⟩:=hx;exact⟨Mf ht (.inr rfl),rfl,rfl⟩
 .cases h
end
section
variable{op:BinOp}{args:List Aa}{u:Aa}
def oq(h:AA (.int op) args=zz u):∃k a l b,args=[.int k a,.int l b]/\c_ op k a l b=zz u:=by simp[AA] at h;grind
def ot(h:AA (.str op) args=zz u):∃a b,args=[.str a,.str b]/\pZ op a b=zz u:=by simp[AA] at h;grind
end
def qI{op:BinOp}{t:TypeId}{p:Oc}(hp:Rc P op t=zz p)(f c:Operand){args:List Aa}{x y:Value}(ha:Bp γ args [x,y]){u:Aa}(h:AA p args=zz u):
  ∃v,(do eqGuard op t f c x y;binOp op t x y:Sem Value).run P w= z0 v w/\BT γ u v:=by
 rw[Rc] at hp;split at hp;.cases hp;obtain⟨k,a,l,b,rfl,h⟩:=oq h;let⟨_,_,e,hx,hy⟩:=ha.KZ;cases e;rw[EW hx,EW hy];exact qC t f c h
 .cases hp;obtain⟨a,b,rfl,h⟩:=ot h;let⟨_,_,e,hx,hy⟩:=ha.KZ;cases e;rw[OY hx,OY hy];exact qD t f c h
 .rename_i d h1 h2 hu;obtain⟨neg,OQ,g⟩:∃neg,((op= .eql/\neg=zl)\/(op= .neq/\neg=zo))/\US P t neg d=zz p:=by cases op<;>first|cases hp;done|exact⟨zl,.inl ⟨rfl,rfl⟩,hp⟩|exact⟨zo,.inr ⟨rfl,rfl⟩,hp⟩
  clear h1 h2 hp;have hp:=g;clear g;unfold US at hp;split at hp
  .cases hp;simp[AA] at h;split at h;.let⟨_,_,e,hx,hy⟩:=ha.KZ;cases e;cases h;rw[Tx hx,Tx hy];exact⟨_,qH OQ t f c hu _ _,rfl⟩
   .cases h
  .split at hp
   .rename_i hg;cases hk:Qe P 20 t with
    |none=>rw[hk] at hp;cases hp
    |some ks=>
     rw[hk] at hp;cases hp;simp[AA] at h;split at h;.let⟨_,_,e,hx,hy⟩:=ha.KZ;cases e;exact qG OQ hg hk ⟨_,hu⟩ hx hy h
     .cases h
   .cases hp
  .split at hp;.cases hp
   .rename_i e hz;cases hp;simp[AA] at h;split at h
    .rename_i a b;let⟨_,_,e,hx,hy⟩:=ha.KZ;cases e;cases hq:da a b with
     |none=>rw[hq] at h;cases h
     |some r=>rw[hq] at h;cases h;let⟨m,j,i⟩:=WU (w:=w) (d:=9999) hu (by cases bR:B7 P e with|none=>rw[bR] at hz;exact absurd rfl hz|some n=>cases n with|zero=>rw[bR] at hz;exact absurd rfl hz|succ n=>exact⟨n,rfl⟩) hx hy hq;exact⟨_,U7 OQ t f c j i m,rfl⟩
    .cases h
  all_goals first
   |cases hp;done
   | (cases hp
      simp[AA] at h
      split at h
      . rename_i a b
        obtain ⟨_, _, e, hx, hy⟩ := ha.KZ
        cases e
        cases hq : db _ a b with
        | none => rw [hq] at h; cases h
        | some r =>
          rw [hq] at h; cases h
          obtain ⟨m, j, i⟩ := WV (w := w) (P := P) (t := t) (d := 9999) (by first | exact ⟨_, hu⟩ | exact ⟨_, _, hu⟩ | exact ⟨_, _, _, hu⟩) hx hy hq
          exact ⟨_, U7 OQ t f c j i m, rfl⟩
      . cases h)
 .cases hp
end
end Go.Am
end
section
namespace Go.Am
open Go
section
variable{P:Program}{γ:Gh}{w:World}
def aEt{op:UnOp}{a u:Aa}{x:Value}(hx:BT γ a x)(h:aEj op a=zz u):∃v,(Op.unary op x).run P w= z0 v w/\BT γ u v:=by
 unfold aEj at h;split at h;.cases h;rw[Tx hx];exact⟨_,rfl,rfl⟩
 .cases h;rw[EW hx];exact⟨_,rfl,rfl⟩
 .rename_i k n;rw[EW hx];rw[aCR] at h;cases hs:Ra (Op.unary .xor (zf k n)) with
  |none=>rw[hs] at h;cases h
  |some v=>
   rw[hs] at h;have b:=YB hs;simp[CP] at h;split at h;.cases h;exact⟨_,by rw[b];rfl,rfl⟩
   .cases h
 .cases h
def gU{src dst:TypeId}{k l k':IntKind}{n:Int}(hs:P.underlying src=zz (.int l))(hd:P.underlying dst=zz (.int k)):(convert src dst (zf k' n)).run P w= z0 (zf k (k.wrap n)) w:=by simp[convert,run_underlying hs,run_underlying hd,Conv.intToInt]
def gV{src dst:TypeId}{l k':IntKind}{n:Int}(hs:P.underlying src=zz (.int l))(hd:P.underlying dst=zz .string):(convert src dst (zf k' n)).run P w= z0 (zp (Utf8.encode n)) w:=by simp[convert,run_underlying hs,run_underlying hd,Conv.intToString]
def ou{t:TypeId}{f off:Nat}{sh:Option Nat}(hf:I4 P t f=zz (off,sh)){cs:List Aa}{x:Value}(hx:BT γ (.agg cs) x){u:Aa}(h:FN cs off sh=zz u):∃v,(Instr.field t x f).run P w= z0 v w/\BT γ u v:=by
 rw[I4] at hf;split at hf
 .rename_i fs hu;split at hf
  .rename_i fd ee;split at hf;.rename_i n b h1 h2;cases hf;obtain⟨us,rfl,hr,h1c⟩:=hx;let⟨v,p,q⟩:=qE (w:=w) h2 hr h1c h;exact⟨v,by simp[Instr.field,run_underlying hu,ee,asAgg,p],q⟩
   .cases hf
  .cases hf
 .cases hf
def SF{i:Int}{len j:Nat}(h:MM i len=zz j):0<=i/\i<len/\i.toNat=j:=by rw[MM] at h;grind
def bS{t e:TypeId}{len n:Nat}{sh:Option Nat}(ht:P.underlying t=zz (.array len e))(hn:B7 P e=zz n)(vN:FL P e=zz sh){cs:List Aa}{x:Value}(hx:BT γ (.agg cs) x){k:IntKind}{i:Int}{j:Nat}
  (hi:MM i len=zz j) {u:Aa} (h:FN cs (j*n) sh=zz u):∃v,(zi t x (zf k i)).run P w= z0 v w/\BT γ u v:=by
 obtain⟨us,rfl,hr,h1c⟩:=hx;let⟨d,c,b⟩:=SF hi;let⟨v,p,q⟩:=qE (w:=w) vN hr h1c h;exact⟨v,by simp[zi,asIntOf,run_underlying ht,d,c,D7 hn,b,p],q⟩
def bT{t:TypeId}(ht:P.underlying t=zz .string){s:Ai}{k:IntKind}{i:Int}{b:UInt8}(h0:0<=i)(h:s[i.toNat]?=zz b):
  (zi t (zp ⟨⟨s⟩⟩) (zf k i)).run P w= z0 (zf .u8 b.toNat) w:=by
 let⟨hlt,hb⟩:=Aq.1 h;have e:(⟨⟨s⟩⟩:ByteArray)[i.toNat]?=zz b:=by rw[ByteArray.getElem?_lt' _ _ (show i.toNat<(⟨⟨s⟩⟩:ByteArray).size from hlt),<-hb];rfl
 simp[zi,asIntOf,run_underlying ht,h0,e]
def eo{p u:Aa}{x:Value}{n:Nat}(hx:BT γ p x)(h:Yj p n=zz u):∃a,x= zn (zz a)/\BT γ u (zn (zz (a.add n))):=by
 unfold Yj at h;split at h;next cs=>cases h;obtain⟨b,o,rfl,hm⟩:=hx;refine⟨_,rfl,b,o+n,?_,hm.drop n⟩;rw[zd];split<;>simp_all
 next id o=>cases h;obtain⟨b,hb,rfl⟩:=hx;refine⟨_,rfl,b,hb,?_⟩;rw[zd];split<;>simp_all
 .cases h
def qJ{t:TypeId}{f off:Nat}{sh:Option Nat}(hf:I4 P t f=zz (off,sh)){p u:Aa}{x:Value}(hx:BT γ p x)(h:Yj p off=zz u):∃v,(Instr.fieldAt t x f).run P w= z0 v w/\BT γ u v:=by
 obtain⟨a,rfl,hu⟩:=eo hx h;refine⟨_,?_,hu⟩;rw[I4] at hf;split at hf
 .rename_i fs vO;split at hf
  .rename_i fd ee;split at hf;.rename_i n b h1 h2;cases hf;simp[Instr.fieldAt,run_underlying vO,ee,Instr.sureAddr,fieldPlace,D7 h1]
   .cases hf
  .cases hf
 .cases hf
def wJ{t e:TypeId}{n:Nat}(ht:P.underlying t=zz (.slice e))(hn:B7 P e=zz n){s u:Aa}{x:Value}(hx:BT γ s x){k:IntKind}{i:Int}(h:elemOf n s i=zz u):
  ∃v,(ze t x (zf k i)).run P w= z0 v w/\BT γ u v:=by
 have FX:P.underlying t=zz (.slice (P.elem t)):=by simp[zt,ht]
 have he:P.elem t=e:=by simp[zt,ht]
 unfold elemOf at h;split at h
 .rename_i z AD;split at h
  .rename_i hz;subst hz;split at h
   .rename_i h0;cases hr:AD[i.toNat]? with
    |none=>rw[hr] at h;cases h
    |some row=>
     rw[hr] at h;cases h;obtain⟨d,cap,rfl,hc,hsp,hm⟩:=hx;let⟨hl,c⟩:=hm.get hr;have hlt:i<zr AD:=by grind
     have wK:=OU hsp hc Ab;generalize d.block=b at*;generalize d.off=o at*;subst wK;refine⟨zn (zz ((⟨b,o,zy⟩:Addr).add (i.toNat*z))),by rw[run_indexAt_slice w t _ _ _ _ _ FX,Af ⟨h0,hlt⟩,he,D7 hn];rfl,b,o+i.toNat*z,?_,c⟩;rw[zd];split<;>simp_all
   .cases h
  .cases h
 .rename_i id off len z;split at h
  .rename_i hz;subst hz;cases hj:MM i len with
   |none=>rw[hj] at h;cases h
   |some j=>rw[hj] at h;cases h;let⟨l,g,f⟩:=SF hj;subst f;obtain⟨b,cap,hb,rfl,hc,hz⟩:=hx;refine⟨zn (zz ((⟨b,off,zy⟩:Addr).add (i.toNat*z))),by rw[run_indexAt_slice w t _ _ _ _ _ FX,Af ⟨l,g⟩,he,D7 hn];rfl,b,hb,?_⟩;rw[zd];split<;>simp_all
  .cases h
 .cases h
def ov{t e:TypeId}{len n:Nat}(ht:P.underlying t=zz (.array len e))(hn:B7 P e=zz n){p u:Aa}{x:Value}(hx:BT γ p x){k:IntKind}{i:Int}{j:Nat}(hj:MM i len=zz j)(h:Yj p (j*n)=zz u):
  ∃v,(ze t x (zf k i)).run P w= z0 v w/\BT γ u v:=by
 have FX:P.underlying t=zz (.array (P.arrayLen t) (P.elem t)):=by simp[zt,Program.arrayLen,ht]
 have he:P.elem t=e:=by grind
 have hl:P.arrayLen t=len:=by grind
 obtain⟨a,rfl,hu⟩:=eo hx h;let⟨d,c,b⟩:=SF hj;subst b;exact⟨_,by rw[run_indexAt_array w t _ _ _ FX,hl,Af ⟨d,c⟩,he,D7 hn];rfl,hu⟩
def Ŋ{t ty:TypeId}{isStr:Bool}(ht:if isStr=zo then P.underlying t=zz .string else∃e,P.underlying t=zz (.slice e)){ts:Array TypeId}(gW:ts[0]?=zz t){s u:Aa}{x:Value}(hx:BT γ s x)(h:lenOf isStr s=zz u):
  ∃v,(zm ts ty #[x]).run P w= z0 v w/\BT γ u v:=by
 cases isStr with
 |true=>
  replace ht:P.underlying t=zz .string:=ht;unfold lenOf at h;split at h<;>first|cases h;done|skip
  simp[BR] at h;cases h;rw[OY hx];refine⟨_,by simp[zm,gW,run_underlying ht];rfl,rfl⟩
 |false=>
  obtain⟨e,ht⟩:∃e,P.underlying t=zz (.slice e):=ht;unfold lenOf at h;split at h;.cases h;obtain⟨c,cap,rfl,_⟩:=hx;exact⟨_,by simp[zm,gW,run_underlying ht];rfl,rfl⟩
  .cases h;obtain⟨b,cap,_,rfl,_⟩:=hx;exact⟨_,by simp[zm,gW,run_underlying ht];rfl,rfl⟩
  .cases h;rw[show x= zw zy 0 0 from hx];exact⟨_,by simp[zm,gW,run_underlying ht];rfl,rfl⟩
  .cases h;obtain⟨b,rfl⟩:=hx;exact⟨_,by simp[zm,gW,run_underlying ht];rfl,rfl⟩
  .cases h
  .cases h
def ŋ{vs:List Aa}{x:Value}(hx:BT γ (.tuple vs) x){i:Nat}{u:Aa}(h:vs[i]?=zz u):∃v,(Instr.extract x i).run P w= z0 v w/\BT γ u v:=by
 obtain⟨us,rfl,hr⟩:=hx;let⟨v,hv,q⟩:=hr.get h;exact⟨v,by
  have:us[i]?=zz v:=zv hv
  simp[Instr.extract,this],q⟩
end
end Go.Am
end
section
namespace Go.Am
open Go
section
variable{P:Program}{γ:Gh}{w:World}
def OZ{n:Int}{top j:Nat}(h:FH n top=zz j):0<=n/\n<=top/\n.toNat=j:=by rw[FH] at h;grind
def Ll{lo hi:Option Value}{as:List Aa}{len cap l h:Nat}{isSlice:Bool}(hb:Ep lo.isSome hi.isSome len as=zz (l,h))(hr:Bp γ as (lo.toList++hi.toList))(hc:len<=cap):
  (zq isSlice len cap lo hi zy).run P w= z0 (l,h,cap) w/\l<=h/\h<=len:=by
 cases lo<;>cases hi<;>simp[Option.isSome,Ep] at hb
 .split at hb;.cases hb;exact⟨by simp[zq],AV _,Ae _⟩
  .cases hb
 .rename_i hv;split at hb
  .rename_i k h';cases b:FH h' len with
   |none=>rw[b] at hb;cases hb
   |some j=>rw[b] at hb;cases hb;let⟨f,g,d⟩:=OZ b;let⟨_,e,hx⟩:=hr.one;cases e;rw[EW hx];refine⟨?_,AV _,Ab⟩;have:h'<=(cap:Int):=Ab;simp[zq,run_sliceBound,f,this,d]
  .cases hb
 .rename_i p;split at hb
  .rename_i k l';cases b:FH l' len with
   |none=>rw[b] at hb;cases hb
   |some j=>rw[b] at hb;cases hb;let⟨f,g,d⟩:=OZ b;let⟨_,e,hx⟩:=hr.one;cases e;rw[EW hx];refine⟨?_,Ab,Ae _⟩;simp[zq,run_sliceBound,f,g,d]
  .cases hb
 .rename_i p hv;split at hb
  .rename_i k l' k' h';cases b:FH h' len with
   |none=>rw[b] at hb;cases hb
   |some j=>
    rw[b] at hb;simp only[CP] at hb;cases c:FH l' j with
    |none=>rw[c] at hb;cases hb
    |some i=>rw[c] at hb;cases hb;let⟨f,g,d⟩:=OZ b;let⟨o,n,m⟩:=OZ c;let⟨_,_,e,hx,hy⟩:=hr.KZ;cases e;rw[EW hx,EW hy];refine⟨?_,Ab,Ab⟩;have:h'<=(cap:Int):=Ab;simp[zq,run_sliceBound,f,this,o,d,m,n]
  .cases hb
def FZ.slice{AD:List (List Aa)}{z b o:Nat}(h:FZ γ AD z b o)(l k:Nat):FZ γ ((AD.take k).drop l) z b (o+l*z):=by
 refine FZ.HD λi r hi=>?_;rw[Cu,Ci] at hi;split at hi;.let⟨p,q⟩:=h.get hi;grind
 .cases hi
def Ō{t:TypeId}{isStr:Bool}{size:Nat}(ht:if isStr=zo then P.underlying t=zz .string else∃e,P.underlying t=zz (.slice e)/\B7 P e=zz size){s u:Aa}{x:Value}(hx:BT γ s x){as:List Aa}{lo hi:Option Value}
  (hr:Bp γ as (lo.toList++hi.toList)) (h:KE size isStr lo.isSome hi.isSome s as=zz u):
  ∃v,(Instr.sliceAt t x lo hi zy).run P w= .ok v w/\BT γ u v:=by
 unfold KE at h;split at h
 .split at h
  .rename_i s RK;subst RK;replace ht:P.underlying t=zz .string:=ht;cases hb:Ep lo.isSome hi.isSome s.length as with
   |none=>rw[hb] at h;cases h
   |some f=>
    obtain⟨l,k⟩:=f;rw[hb] at h;cases h;obtain⟨c,i,g⟩:=Ll (P:=P) (w:=w) (isSlice:=zl) hb hr (Ae _);rw[OY hx,run_sliceAt_string w t _ _ _ _ ht];refine⟨.string ((⟨⟨s⟩⟩:ByteArray).extract l k),?_,?_⟩;.have e:(⟨⟨s⟩⟩:ByteArray).size=s.length:=rfl;simp only[Instr.slice,Sem.run_bind,run_underlying ht,Result.andThen_ok];simp only[e,c,Option.isSome,CA,EV,Sem.run_bind,Sem.run_pure,Result.andThen_ok]
    .show Value.string _=Value.string _;congr 1
     apply ByteArray.ext;apply HW;simp[ByteArray.data_extract,Lh,List.drop_take]
  .cases h
 .rename_i z AD;split at h
  .rename_i hc;obtain⟨rfl,rfl⟩:=hc;obtain⟨e,ht,hn⟩:∃e,P.underlying t=zz (.slice e)/\B7 P e=zz z:=ht;have FX:P.underlying t=zz (.slice (P.elem t)):=by simp[zt,ht]
   have he:P.elem t=e:=by simp[zt,ht]
   obtain⟨d,cap,rfl,hc,hsp,hm⟩:=hx;cases hb:Ep lo.isSome hi.isSome AD.length as with
   |none=>rw[hb] at h;cases h
   |some f=>
    obtain⟨l,k⟩:=f;rw[hb] at h;cases h;obtain⟨c,i,g⟩:=Ll (P:=P) (w:=w) (isSlice:=zo) hb hr hc;rw[run_sliceAt_slice w t _ _ _ _ FX,run_slice_any w t _ _ _ FX,c,he,Result.andThen_ok,D7 hn];refine⟨_,rfl,?_⟩;show BT γ (.sl z ((AD.take k).drop l)) (.slice (if cap=l then zz d else Option.map (λq:Addr=>q.add (l*z)) (zz d)) (k-l) (cap-l));have hlen:((AD.take k).drop l).length=k-l:=EP;by_cases hcl:cap=l;.have:(AD.take k).drop l=[]:=DC Ab;rw[this];simp only[hcl,BR];exact⟨d,l-l,EP,AH,.inr Ab,trivial⟩
    .rw[Ac hcl];have wK:d=⟨d.block,d.off,zy⟩:=by
      rcases hsp with hsp|hsp
      .cases d;simp_all
      .omega
     generalize d.block=b at*;generalize d.off=o at*;subst wK;refine⟨⟨b,o+l*z,zy⟩,cap-l,?_,Ab,.inl rfl,hm.slice l k⟩;rw[hlen];simp only[B6];unfold Addr.add;split<;>simp_all
  .cases h
 .rename_i id off n z;split at h
  .rename_i hc;obtain⟨rfl,rfl⟩:=hc;obtain⟨e,ht,hn⟩:∃e,P.underlying t=zz (.slice e)/\B7 P e=zz z:=ht;have FX:P.underlying t=zz (.slice (P.elem t)):=by simp[zt,ht]
   have he:P.elem t=e:=by simp[zt,ht]
   obtain⟨b,cap,ō,rfl,hc,hz,LC⟩:=hx;cases hb:Ep lo.isSome hi.isSome n as with
   |none=>rw[hb] at h;cases h
   |some f=>
    obtain⟨l,k⟩:=f;rw[hb] at h;simp only[CP] at h;split at h
    .rename_i wL;cases h;obtain⟨c,i,g⟩:=Ll (P:=P) (w:=w) (isSlice:=true) hb hr hc;rw[run_sliceAt_slice w t _ _ _ _ FX,run_slice_any w t _ _ _ FX,c,he,Result.andThen_ok,D7 hn];refine⟨_,rfl,b,cap-l,ō,?_,Ab,⟨hz.1,Bv (Nat.sub_le _ _) hz.2⟩,?_⟩;.show Value.slice (if cap=l then some ⟨b,off,none⟩ else Option.map (λq:Addr=>q.add (l*z)) (some ⟨b,off,none⟩)) (k-l) (cap-l)=_;rw[Ac Ab];simp only[B6];unfold Addr.add;split<;>simp_all
     .rw[LC,gM,<-B9,aNr Ab]
    .rename_i wL;cases h;obtain⟨c,i,g⟩:=Ll (P:=P) (w:=w) (isSlice:=true) hb hr hc;rw[run_sliceAt_slice w t _ _ _ _ FX,run_slice_any w t _ _ _ FX,c,he,Result.andThen_ok,D7 hn];have Re:k-l=0:=Ab;by_cases hcl:cap=l;.refine⟨_,rfl,⟨b,off,none⟩,cap-l,?_,AH,.inl rfl,trivial⟩;show Value.slice (if cap=l then some ⟨b,off,none⟩ else Option.map (λq:Addr=>q.add (l*z)) (some ⟨b,off,none⟩)) (k-l) (cap-l)=_;rw[Af hcl,Re];rfl
     .refine⟨_,rfl,(Addr.mk b off none).add (l*z),cap-l,?_,AH,.inl ?_,trivial⟩;.show Value.slice (if cap=l then some ⟨b,off,none⟩ else Option.map (λq:Addr=>q.add (l*z)) (some ⟨b,off,none⟩)) (k-l) (cap-l)=_;rw[Ac hcl,Re];rfl
      .unfold Addr.add;split<;>simp_all
  .cases h
 .split at h;.cases h
  .rename_i RK;have RK:isStr=false:=by simpa using RK
   subst RK;obtain⟨e,ht,hn⟩:∃e,P.underlying t=some (.slice e)/\B7 P e=some size:=ht;have FX:P.underlying t=some (.slice (P.elem t)):=by simp[Program.elem,ht]
   have he:P.elem t=e:=by simp[Program.elem,ht]
   rw[show x= .slice none 0 0 from hx];cases hb:Ep lo.isSome hi.isSome 0 as with
   |none=>rw[hb] at h;cases h
   |some f=>obtain⟨l,k⟩:=f;rw[hb] at h;cases h;obtain⟨c,i,g⟩:=Ll (P:=P) (w:=w) (isSlice:=true) hb hr (Ae _);rw[run_sliceAt_slice w t _ _ _ _ FX,run_slice_any w t _ _ _ FX,c,he,Result.andThen_ok,D7 hn];refine⟨_,rfl,?_⟩;have:l=0:=Ab;subst this;have:k=0:=Ab;subst this;rfl
 .cases h
end
end Go.Am
end
section
namespace Go.Am
open Go
section
variable{P:Program}{γ:Gh}{w:World}
def HQ{a:Aa}{v:Value}(h:BT γ a v)(hn:0<zr a.cells):Bp γ a.cells v.cells.toList/\∀u∈v.cells.toList,u.oneCell'=zo:=by
 cases a with
 |agg cs=>obtain⟨us,rfl,p,q⟩:=h;exact⟨p,q⟩
 |tuple vs=>exact absurd hn (by simp[Aa.cells])
 |bool b=>rw[show v=_ from h];exact⟨⟨_,[],rfl,rfl,rfl⟩,SG⟩
 |int k n=>rw[show v=_ from h];exact⟨⟨_,[],rfl,rfl,rfl⟩,SG⟩
 |str s=>rw[show v=_ from h];exact⟨⟨_,[],rfl,rfl,rfl⟩,SG⟩
 |slnil=>rw[show v=_ from h];exact⟨⟨_,[],rfl,rfl,rfl⟩,SG⟩
 |GI z=>have h0:=h;obtain⟨b,rfl⟩:=h;exact⟨⟨_,[],rfl,h0,rfl⟩,SG⟩
 |nilFunc=>rw[show v=_ from h];exact⟨⟨_,[],rfl,rfl,rfl⟩,SG⟩
 |nilIface=>rw[show v=_ from h];exact⟨⟨_,[],rfl,rfl,rfl⟩,SG⟩
 |ptr p=>
  have h0:=h;cases p with
  |none=>rw[show v=_ from h];exact⟨⟨_,[],rfl,rfl,rfl⟩,SG⟩
  |some p=>let⟨i,o⟩:=p;obtain⟨b,_,rfl⟩:=h;exact⟨⟨_,[],rfl,h0,rfl⟩,SG⟩
 |CH cs=>have h0:=h;obtain⟨b,o,rfl,_⟩:=h;exact⟨⟨_,[],rfl,h0,rfl⟩,SG⟩
 |sl z AD=>have h0:=h;obtain⟨d,cap,rfl,_⟩:=h;exact⟨⟨_,[],rfl,h0,rfl⟩,SG⟩
 |CC id off len z=>have h0:=h;obtain⟨b,cap,_,rfl,_⟩:=h;exact⟨⟨_,[],rfl,h0,rfl⟩,SG⟩
 |map m=>
  have h0:=h;cases m with
  |none=>rw[show v=_ from h];exact⟨⟨_,[],rfl,rfl,rfl⟩,SG⟩
  |some id=>obtain⟨b,_,rfl⟩:=h;exact⟨⟨_,[],rfl,h0,rfl⟩,SG⟩
 |func fn f c=>have h0:=h;obtain⟨fs,cs,rfl,_⟩:=h;exact⟨⟨_,[],rfl,h0,rfl⟩,SG⟩
 |iface t a=>have h0:=h;obtain⟨u,rfl,_⟩:=h;exact⟨⟨_,[],rfl,h0,rfl⟩,SG⟩
def O0:∀(vs:List Value) (off j:Nat) (cells:Array Value),off+j+zr vs<=cells.size->
  (vs.zipIdx j).foldl (λcs (c,i)=>cs.setIfInBounds (off+i) c) cells=(cells.toList.take (off+j)++vs++cells.toList.drop (off+j+zr vs)).toArray
 |[],off,j,cells,h=>AH
 |v::vs,off,j,cells,h=>by
  simp only[cu,vj];rw[O0 vs off (j+1) _ (by simp at h⊢;omega)];simp[Bn] at h;have hk:off+j<zr cells.toList:=EP;have e0:(cells.setIfInBounds (off+j) v).toList=cells.toList.set (off+j) v:=AH;have d:(cells.toList.set (off+j) v).take (off+j+1)=cells.toList.take (off+j)++[v]:=by rw[List.take_add_one,PQ (Ae _),AY hk];rfl
  have b:(cells.toList.set (off+j) v).drop (off+j+1+zr vs)=cells.toList.drop (off+j+1+zr vs):=cX Ab;rw[e0,(Ab:off+(j+1)=off+j+1),d,b];rw[(EP:off+j+(v::vs).length=off+j+1+zr vs)];simp
def YD{place:Nat->Option (Nat×Nat)}:∀{places:List (Nat×Nat)} {as:List Aa} {parts:List (Nat×Value)} {cs:List Aa} {us:Array Value} {HJ:List Aa},AQ cs (places.zip as)=zz HJ->zr places=zr as->
  parts.map (λp=>place p.1)=places.map zz->Bp γ as (parts.map (·.2))->Bp γ cs us.toList->(∀u∈us.toList,u.oneCell'=zo)->
  ∃D4,Instr.fill place us parts=zz D4/\Bp γ HJ D4.toList/\∀u∈D4.toList,u.oneCell'=zo
 |[],as,parts,cs,us,HJ,h,hl,hp,ha,hr,h1=>by
  have:parts=[]:=zv hp
  subst this;simp[List.zip_nil_left,AQ] at h;cases h;exact⟨us,rfl,hr,h1⟩
 |(off,size)::places,[],parts,cs,us,HJ,h,hl,hp,ha,hr,h1=>by simp at hl
 |(off,size)::places,a::as,[],cs,us,HJ,h,hl,hp,ha,hr,h1=>by simp at hp
 |(off,size)::places,a::as,(i,v)::parts,cs,us,HJ,h,hl,hp,ha,hr,h1=>by
  simp only[aRt,AQ] at h;split at h
  .rename_i hc;let⟨o,n,m⟩:=hc;simp[Bm,Fs] at hp;let⟨_,_,e,bJ,b⟩:=ha.MS;simp[Bm,Fs] at e;let⟨l,k⟩:=e;subst l;subst k;let⟨c,g⟩:=HQ bJ Ab;have LC:v.cells.size=size:=by have:=c.length;simp at this;omega
   have dE:us.size=zr cs:=by have:=hr.length;exact zv this
   have hf:=O0 v.cells.toList off 0 us (by simp[LC];omega);let⟨D4,f,r2,d⟩:=YD (place:=place) (us:=(us.toList.take off++v.cells.toList++us.toList.drop (off+size)).toArray) h (zv hl) hp.2 b
    (by simpa using((hr.take off).append c).append (hr.drop (off+size)))
    (λu hu=>by
     simp only[Ay] at hu;rcases hu with(hu|hu)|hu
     .exact h1 u (BJ hu)
     .exact g u hu
     .exact h1 u (BO hu))
   refine⟨D4,?_,r2,d⟩;simp only[Instr.fill,hp.1];rw[Ac (by simp[LC];omega)];rw[<-f];congr 1
   have j:zr v.cells.toList=size:=zv LC
   rw[<-aRu,aNs,hf];simp[j]
  .cases h
def bU{v:Value}{a:Aa}(h:Mt v=zz a):Bp γ a.cells v.cells.toList/\∀u∈v.cells.toList,u.oneCell'=zo:=by
 have hr:=FO (γ:=γ) h;unfold Mt at h;split at h
 .rename_i cs;cases hs:MG cs.toList with
  |none=>rw[hs] at h;cases h
  |some as=>rw[hs] at h;cases h;exact N0 hs
 .refine HQ hr ?_;unfold P8 at h;split at h<;>first|(cases h;simp[Aa.cells];done)|skip
  .split at h;.cases h;simp[Aa.cells]
   .cases h
  .cases h
def PF{t:TypeId}{fs:Array Field}(hu:P.underlying t=zz (.struct fs)){place:Nat->Option (Nat×Nat)}(pS:∀(i:Nat) (f:Field) (n:Nat),fs[i]?=zz f->B7 P f.type=zz n->place i=zz (f.offset,n)):
  ∀{parts:List (Nat×Operand)} {ps:List (Nat×Nat)},KG P t parts=zz ps->parts.map (λp=>place p.1)=ps.map zz
 |[],ps,h=>by cases h;rfl
 |(i,x)::rest,ps,h=>by
  simp[KG,hu] at h;split at h
  .rename_i f hf;split at h;.rename_i n r h1 h2;cases h;simp[pS i f n hf h1,PF hu pS h2]
   .cases h
  .cases h
def Qk{t e:TypeId}{len n:Nat}(hu:P.underlying t=zz (.array len e))(hn:B7 P e=zz n):
  ∀{parts:List (Nat×Operand)} {ps:List (Nat×Nat)},KG P t parts=zz ps->parts.map (λp=>zz (p.1*n,n))=ps.map zz
 |[],ps,h=>by cases h;rfl
 |(i,x)::rest,ps,h=>by
  simp only[KG,hu] at h;split at h
  .split at h;.rename_i n' r h1 h2;cases h;rw[hn] at h1;cases h1;simp[Qk hu hn h2]
   .cases h
  .cases h
def VS:∀(fs:List Field),(fs.all λf=>(B7 P f.type).isSome)=zo->∃places,fs.mapM (λf=>(P.info? f.type).map λi=>(f.offset,i.size))=zz places/\
  ∀(i:Nat) (f:Field) (n:Nat),fs[i]?=zz f->B7 P f.type=zz n->places[i]?=zz (f.offset,n)
 |[],_=>⟨[],rfl,AH⟩
 |f::fs,h=>by
  simp only[gN,Bq] at h;let⟨rest,h1,h2⟩:=VS fs h.2;cases hi:P.info? f.type with
  |none=>simp[B7,hi] at h
  |some b=>
   refine⟨(f.offset,b.size)::rest,by simp[hi,h1],λi g n hg hn=>?_⟩;cases i with
   |zero=>simp at hg;subst hg;simp[B7,hi] at hn;simp[hn]
   |succ i=>simpa using h2 i g n (zv hg) hn
def oz{t:TypeId}{z:Aa}{parts:Array (Nat×Operand)}{ps:List (Nat×Nat)}{O:Operand->Value}(hz:HA P t=zz z)(hp:KG P t parts.toList=zz ps)(hb:Xu P t=zo){as:List Aa}
  (ha:Bp γ as ((parts.toList.map (·.2)).map O)) {u:Aa} (h:AA (.EM z.cells ps) as=zz u):∃v,(Instr.build t (parts.map λ(i,x)=>(i,O x))).run P w= z0 v w/\BT γ u v:=by
 simp only[AA] at h;split at h
 .rename_i hl;cases hf:AQ z.cells (ps.zip as) with
  |none=>rw[hf] at h;cases h
  |some cs=>
   rw[hf] at h;cases h;rw[HA] at hz;cases hi:P.info? t with
   |none=>rw[hi] at hz;cases hz
   |some d=>
    cases bR:d.zero with
    |none=>rw[hi] at hz;simp[bR] at hz
    |some k=>
     rw[hi] at hz;simp[CP,bR] at hz;let⟨c,z2⟩:=bU (γ:=γ) hz;have hparts:((parts.map λ(i,x)=>(i,O x)).toList.map (·.2))=(parts.toList.map (·.2)).map O:=AH;rw[Xu] at hb;split at hb
     .rename_i fs hu;let⟨places,j,g⟩:=VS fs.toList hb;let⟨D4,f1,f2,f3⟩:=YD (place:=λi=>places.toArray[i]?) (parts:=(parts.map λ(i,x)=>(i,O x)).toList) hf hl
       (by have:=PF hu (λi f n h1 h2=>zv (g i f n (zv h1) h2)) hp;rw[<-this];simp) (by rwa[hparts]) c z2
      exact⟨.agg D4,run_build w t _ _ (by simp only[Program.built,hi,hu,bR,j];exact f1),D4,rfl,f2,f3⟩
     .rename_i len e hu;cases he:P.info? e with
      |none=>simp[B7,he] at hb
      |some b=>
       let⟨D4,f1,f2,f3⟩:=YD (place:=λi=>zz (i*b.size,b.size)) (parts:=(parts.map λ(i,x)=>(i,O x)).toList) hf hl
        (by have:=Qk hu (n:=b.size) (by simp[B7,he]) hp;rw[<-this];simp) (by rwa[hparts]) c z2
       exact⟨.agg D4,run_build w t _ _ (by simp only[Program.built,hi,hu,bR,he];exact f1),D4,rfl,f2,f3⟩
     .cases hb
 .cases h
end
end Go.Am
end
section
namespace Go.Am
open Go
def Oc.still:Oc->Bool
 | .append _ _| .Dk _| .GI _| .s2b| .Yi=>zl
 |_=>zo
section
variable{o:WQ}{dst:Option Nat}{x:Option (List Aa)}
def HR{r:E8}(h:UU o dst x=zz r):∃args,x=zz args/\r= .mem o args dst:=by unfold UU at h;grind
def LR{p:Oc}{args:List Aa}{d:Option Nat}{Bu:Bool}{b:Option (Nat×Aa)}:¬UU o dst x=zz (.op p args d Bu b):=λh=>by let⟨_,_,e⟩:=HR h;cases e
end
def Ef{p:Oc}{dst:Option Nat}{x:Option (List Aa)}{r:E8}(h:UT p dst x=zz r):∃args,x=zz args/\r= .op p args dst zl zy:=by
 cases x with
 |none=>cases h
 |some args=>cases h;exact⟨args,rfl,rfl⟩
section
variable{C:GN}{γ0 γ:Gh}{w0 w:World}{Z:Nat->Nat}{U:BU}{h:Ah}{a:Act}{fid:FuncId}{ops:List Oper}
def IH(P:Program)(γ:Gh)(a:Act)(o:Oper)(w:World)(p:Oc)(args:List Aa):Prop:=
 ∀u,AA p args=zz u->∃v,(execOp a.eval o).run P w= z0 (.value v) w/\BT γ u v
def MH{P:Program}{s:Sem Value}{v:Value}(hs:s.run P w= z0 v w):(do pure (zx (<-s)):Sem Next).run P w= z0 (.value v) w:=by simp[hs]
def wM{o:Oper}{c x y:Operand}(ho:o.op= .pick c x y)(hr:Dd C γ0 w0 γ Z U h a w){args:List Aa}(ha:BC C U [c,x,y]=zz args):IH C.P γ a o w .pick args:=by
 intro u hu;simp[AA] at hu;split at hu;next b p q=>cases hu;let⟨_,_,_,e,h1,h2,d⟩:=(Ee hr ha).VR;simp only[Bm,Da,Fs] at e;let⟨i,g,f,_⟩:=e;rw[<-i] at h1;rw[<-g] at h2;rw[<-f] at d;refine⟨if b then a.eval x else a.eval y,?_,by cases b<;>simpa⟩;simp[execOp,ho,Tx h1,asBool]
 .cases hu
def o_{o:Oper}{op:BinOp}{t:TypeId}{x y:Operand}{p:Oc}(hp:Rc C.P op t=zz p)(he:execOp a.eval o=(do pure (zx (<-(do eqGuard op t x y (a.eval x) (a.eval y);binOp op t (a.eval x) (a.eval y):Sem Value)))))
  (hr:Dd C γ0 w0 γ Z U h a w) {args:List Aa} (ha:BC C U [x,y]=zz args):IH C.P γ a o w p args:=by
 intro u hu;obtain⟨v,c,b⟩:=qI hp x y (Ee hr ha) hu;exact⟨v,by rw[he];exact MH c,b⟩
section
variable(hr:Dd C γ0 w0 γ Z U h a w)
def Hq{x:Operand}{args:List Aa}(ha:BC C U [x]=zz args):∃u,args=[u]/\BT γ u (a.eval x):=by
 have h1:=Ee hr ha;cases args with
 |nil=>cases h1
 |cons u us=>
  let⟨_,_,e,h2,b⟩:=h1.MS;cases e;cases us with
  |nil=>exact⟨u,rfl,h2⟩
  |cons _ _=>let⟨_,_,e,_⟩:=b.MS;cases e
def FA{x y:Operand}{args:List Aa}(ha:BC C U [x,y]=zz args):∃u v,args=[u,v]/\BT γ u (a.eval x)/\BT γ v (a.eval y):=by
 have h1:=Ee hr ha;cases args with
 |nil=>cases h1
 |cons u us=>
  let⟨_,_,e,h2,b⟩:=h1.MS;cases e;cases us with
  |nil=>cases b
  |cons v vs=>
   let⟨_,_,e,d,c⟩:=b.MS;cases e;cases vs with
   |nil=>exact⟨u,v,rfl,h2,d⟩
   |cons _ _=>let⟨_,_,e,_⟩:=c.MS;cases e
end
section
variable{o:Oper}
def yd{op:UnOp}{x:Operand}(he:execOp a.eval o=(do pure (zx (<-Op.unary op (a.eval x)))))
  (hr:Dd C γ0 w0 γ Z U h a w) {args:List Aa} (ha:BC C U [x]=zz args):IH C.P γ a o w (.un op) args:=by
 intro u hu;obtain⟨v,rfl,h1⟩:=Hq hr ha;let⟨r,c,b⟩:=aEt (P:=C.P) (w:=w) h1 hu;simp_all
def wN{src dst:TypeId}{k l:IntKind}{x:Operand}(hs:C.P.underlying src=zz (.int l))(hd:C.P.underlying dst=zz (.int k))(he:execOp a.eval o=(do pure (zx (<-convert src dst (a.eval x)))))
  (hr:Dd C γ0 w0 γ Z U h a w) {args:List Aa} (ha:BC C U [x]=zz args):IH C.P γ a o w (.conv k) args:=by
 intro u hu;obtain⟨v,rfl,h1⟩:=Hq hr ha;simp[AA] at hu;split at hu;next e=>cases e;cases hu;rw[EW h1] at he;exact⟨_,by rw[he];exact MH (gU hs hd),rfl⟩
 .cases hu
def pc{src dst:TypeId}{l:IntKind}{x:Operand}(hs:C.P.underlying src=zz (.int l))(hd:C.P.underlying dst=zz .string)(he:execOp a.eval o=(do pure (zx (<-convert src dst (a.eval x)))))
  (hr:Dd C γ0 w0 γ Z U h a w) {args:List Aa} (ha:BC C U [x]=zz args):IH C.P γ a o w .i2s args:=by
 intro u hu;obtain⟨v,rfl,h1⟩:=Hq hr ha;simp[AA] at hu;split at hu;next e=>cases e;cases hu;rw[EW h1] at he;exact⟨_,by rw[he];exact MH (gV hs hd),rfl⟩
 .cases hu
def qK{t:TypeId}{x:Operand}{f off:Nat}{sh:Option Nat}(hf:I4 C.P t f=zz (off,sh))(he:execOp a.eval o=(do pure (zx (<-Instr.field t (a.eval x) f))))
  (hr:Dd C γ0 w0 γ Z U h a w) {args:List Aa} (ha:BC C U [x]=zz args):IH C.P γ a o w (.part off sh) args:=by
 intro u hu;obtain⟨v,rfl,h1⟩:=Hq hr ha;simp[AA] at hu;split at hu;next e=>cases e;let⟨r,c,b⟩:=ou (w:=w) hf h1 hu;simp_all
 .cases hu
def WW{t:TypeId}{x:Operand}{f off:Nat}{sh:Option Nat}(hf:I4 C.P t f=zz (off,sh))(he:execOp a.eval o=(do pure (zx (<-Instr.fieldAt t (a.eval x) f))))
  (hr:Dd C γ0 w0 γ Z U h a w) {args:List Aa} (ha:BC C U [x]=zz args):IH C.P γ a o w (.K8 off) args:=by
 intro u hu;obtain⟨v,rfl,h1⟩:=Hq hr ha;let⟨r,c,b⟩:=qJ (w:=w) hf h1 hu;simp_all
def pd{x:Operand}{i:Nat}(he:execOp a.eval o=(do pure (zx (<-Instr.extract (a.eval x) i))))
  (hr:Dd C γ0 w0 γ Z U h a w) {args:List Aa} (ha:BC C U [x]=zz args):IH C.P γ a o w (.ext i) args:=by
 intro u hu;obtain⟨v,rfl,h1⟩:=Hq hr ha;simp[AA] at hu;split at hu;next e=>cases e;let⟨r,c,b⟩:=ŋ (P:=C.P) (w:=w) h1 hu;simp_all
 .cases hu
def WX{t:TypeId}{x y:Operand}(ht:C.P.underlying t=zz .string)(he:execOp a.eval o=(do pure (zx (<-zi t (a.eval x) (a.eval y)))))
  (hr:Dd C γ0 w0 γ Z U h a w) {args:List Aa} (ha:BC C U [x,y]=zz args):IH C.P γ a o w .bP args:=by
 intro u hu;obtain⟨p,q,rfl,h1,h2⟩:=FA hr ha;simp[AA] at hu;split at hu
 .rename_i e;cases e;split at hu
  .rename_i s k i h0;cases hb:s[i.toNat]? with
   |none=>rw[hb] at hu;cases hu
   |some b=>rw[hb] at hu;cases hu;rw[OY h1,EW h2] at he;exact⟨_,by rw[he];exact MH (bT ht h0 hb),rfl⟩
  .cases hu
 .cases hu
def WY{t e:TypeId}{len n:Nat}{sh:Option Nat}{x y:Operand}(ht:C.P.underlying t=zz (.array len e))(hn:B7 C.P e=zz n)(vN:FL C.P e=zz sh)(he:execOp a.eval o=(do pure (zx (<-zi t (a.eval x) (a.eval y)))))
  (hr:Dd C γ0 w0 γ Z U h a w) {args:List Aa} (ha:BC C U [x,y]=zz args):IH C.P γ a o w (.aEi len n sh) args:=by
 intro u hu;obtain⟨p,q,rfl,h1,h2⟩:=FA hr ha;simp[AA] at hu;split at hu
 .rename_i e;cases e;rename_i cs k i;cases hb:MM i len with
  |none=>rw[hb] at hu;cases hu
  |some j=>rw[hb] at hu;rw[EW h2] at he;let⟨r,c,b⟩:=bS (w:=w) (k:=k) ht hn vN h1 hb hu;simp_all
 .cases hu
def YE{t e:TypeId}{n:Nat}{x y:Operand}(ht:C.P.underlying t=zz (.slice e))(hn:B7 C.P e=zz n)(he:execOp a.eval o=(do pure (zx (<-ze t (a.eval x) (a.eval y)))))
  (hr:Dd C γ0 w0 γ Z U h a w) {args:List Aa} (ha:BC C U [x,y]=zz args):IH C.P γ a o w (.EE n) args:=by
 intro u hu;obtain⟨p,q,rfl,h1,h2⟩:=FA hr ha;simp[AA] at hu;split at hu;next e=>cases e;rename_i k i;rw[EW h2] at he;let⟨r,c,b⟩:=wJ (w:=w) (k:=k) ht hn h1 hu;simp_all
 .cases hu
def bV{t e:TypeId}{len n:Nat}{x y:Operand}(ht:C.P.underlying t=zz (.array len e))(hn:B7 C.P e=zz n)(he:execOp a.eval o=(do pure (zx (<-ze t (a.eval x) (a.eval y)))))
  (hr:Dd C γ0 w0 γ Z U h a w) {args:List Aa} (ha:BC C U [x,y]=zz args):IH C.P γ a o w (.VO len n) args:=by
 intro u hu;obtain⟨p,q,rfl,h1,h2⟩:=FA hr ha;simp[AA] at hu;split at hu
 .rename_i e;cases e;rename_i k i;cases hb:MM i len with
  |none=>rw[hb] at hu;cases hu
  |some j=>rw[hb] at hu;rw[EW h2] at he;let⟨r,c,b⟩:=ov (w:=w) (k:=k) ht hn h1 hb hu;simp_all
 .cases hu
def VT{t:TypeId}{x:Operand}{lo hi:Option Operand}{isStr:Bool}{size:Nat}(ht:if isStr=zo then C.P.underlying t=zz .string else∃e,C.P.underlying t=zz (.slice e)/\B7 C.P e=zz size)
  (he:execOp a.eval o=(do pure (zx (<-Instr.sliceAt t (a.eval x) (lo.map a.eval) (hi.map a.eval) zy))))
  (hr:Dd C γ0 w0 γ Z U h a w) {args:List Aa} (ha:BC C U (x::(lo.toList++hi.toList))=zz args):IH C.P γ a o w (.K9 size isStr lo.isSome hi.isSome) args:=by
 intro u hu;have h1:=Ee hr ha;cases args with
 |nil=>cases h1
 |cons s as=>let⟨_,_,e,h2,b⟩:=h1.MS;cases e;simp[AA] at hu;obtain⟨r,d,c⟩:=Ō (w:=w) (lo:=lo.map a.eval) (hi:=hi.map a.eval) ht h2 (by cases lo<;>cases hi<;>simpa using b) (zv hu);simp_all
def qL{t:TypeId}{parts:Array (Nat×Operand)}{z:Aa}{ps:List (Nat×Nat)}(hz:HA C.P t=zz z)(hp:KG C.P t parts.toList=zz ps)(hb:Xu C.P t=zo)
  (he:execOp a.eval o=(do pure (zx (<-Instr.build t (parts.map λ(i,x)=>(i,a.eval x))))))
  (hr:Dd C γ0 w0 γ Z U h a w) {args:List Aa} (ha:BC C U (parts.toList.map (·.2))=zz args):IH C.P γ a o w (.EM z.cells ps) args:=by
 intro u hu;let⟨r,c,b⟩:=oz (w:=w) hz hp hb (Ee hr ha) hu;simp_all
def gX{x:Operand}(ho:o.op= .nilCheck x)(hr:Dd C γ0 w0 γ Z U h a w){args:List Aa}(ha:BC C U [x]=zz args):IH C.P γ a o w .J6 args:=by
 intro u hu;obtain⟨v,rfl,h1⟩:=Hq hr ha;simp[AA,p8] at hu;split at hu;next p=>cases hu;let⟨i,k⟩:=p;let⟨b,hb,hv⟩:=h1;exact⟨_,by simp only[execOp,ho,hv];rfl,b,hb,rfl⟩
 .cases hu;let⟨b,k,hv,hm⟩:=h1;exact⟨_,by simp only[execOp,ho,hv];rfl,b,k,rfl,hm⟩
 .cases hu;let⟨fs,cs,hv,p,q⟩:=h1;exact⟨_,by simp only[execOp,ho,hv];rfl,fs,cs,rfl,p,q⟩
 .cases hu
end
def N1:∀{xs:List Operand} {us:List Aa},BC C U xs=zz us->zr us=zr xs
 |[],us,h=>by cases h;rfl
 |x::xs,us,h=>by
  rw[BC] at h;split at h;next u D4 h1 h2=>cases h;simp[N1 h2]
  .cases h
def O1{P:Program}{o:Oper}{c:Call}{b:Builtin}{s:Sem Value}(ho:o.op= .call c)(hc:c.callee= .builtin b)(hs:builtin b c.argTypes o.type (c.args.map λ| .const _=>zo|_=>zl) (c.args.map a.eval)=(do pure (zx (<-s)))){v:Value}
  (hv:s.run P w= z0 v w):(execOp a.eval o).run P w= z0 (.value v) w:=by
 have:execOp a.eval o=(do pure (zx (<-s))):=by rw[<-hs];simp[execOp,ho,resolve,hc];rfl
 simp_all
def dM{o:Oper}{c:Call}{t:TypeId}{isStr:Bool}(ho:o.op= .call c)(hc:c.callee= .builtin .len)(h0:c.argTypes[0]?=zz t)(ht:if isStr=zo then C.P.underlying t=zz .string else∃e,C.P.underlying t=zz (.slice e))
  (hr:Dd C γ0 w0 γ Z U h a w) {args:List Aa} (ha:BC C U c.args.toList=zz args):IH C.P γ a o w (.len isStr) args:=by
 intro u hu;simp[AA] at hu;split at hu
 .rename_i s;have hl:=N1 ha;obtain⟨x,hx⟩:∃x,c.args.toList=[x]:=aHo.1 hl.symm;rw[hx] at ha;let⟨_,e,h1⟩:=Hq hr ha;cases e;obtain⟨r,d,b⟩:=Ŋ ht h0 h1 hu;have e:c.args.map a.eval=#[a.eval x]:=by apply HW;simp[hx]
  exact⟨r,O1 ho hc (by rw[e];rfl) d,b⟩
 .cases hu
def Tz{o:Oper}{c:Call}{isMax:Bool}(ho:o.op= .call c)(hc:c.callee= .builtin (if isMax then .max else .min))(hr:Dd C γ0 w0 γ Z U h a w){args:List Aa}(ha:BC C U c.args.toList=zz args):IH C.P γ a o w (.Ma isMax) args:=by
 intro u hu;simp[AA] at hu;split at hu
 .rename_i k p l q;split at hu
  .rename_i hk;subst hk;cases hu;have hl:=N1 ha;obtain⟨x,y,hx⟩:∃x y,c.args.toList=[x,y]:=by
    cases hq:c.args.toList with
    |nil=>rw[hq] at hl;simp at hl
    |cons x xs=>cases xs with
     |nil=>rw[hq] at hl;simp at hl
     |cons y ys=>cases ys with
      |nil=>exact⟨x,y,rfl⟩
      |cons _ _=>rw[hq] at hl;simp at hl
   rw[hx] at ha;let⟨_,_,e,h1,h2⟩:=FA hr ha;cases e;have e:c.args.map a.eval=#[zf k p,zf k q]:=by apply HW;simp[hx,EW h1,EW h2]
   cases isMax with
   |true=>exact⟨_,O1 ho hc (by rw[e];rfl) (by simp[Builtin.max_,Builtin.max2]),rfl⟩
   |false=>exact⟨_,O1 ho hc (by rw[e];rfl) (by simp[Builtin.min_,Builtin.min2]),rfl⟩
  .cases hu
 .cases hu
end
end Go.Am
end
section
namespace Go.Am
open Go
section
variable{C:GN}{γ0 γ:Gh}{w0 w:World}{Z:Nat->Nat}{U:BU}{h:Ah}{a:Act}{fid:FuncId}{ops:List Oper}
def NC{x:Operand}{d:Nat}{take:Bool}{r:E8}(h:Lk C U x d take=zz r):∃ws,r= .pure ws:=by
 unfold Lk at h;split at h;.grind
 .grind
 .split at h;.grind
  .cases hc:I5 _ with
   |none=>rw[hc] at h;cases h
   |some s=>rw[hc] at h;cases h;exact⟨_,rfl⟩
 .cases hc:I5 _ with
  |none=>rw[hc] at h;cases h
  |some s=>rw[hc] at h;cases h;exact⟨_,rfl⟩
 .cases h
def dN{t:TypeId}{v:Aa}{d:Nat}{p:Oc}{args:List Aa}{dst:Option Nat}{Bu:Bool}{b:Option (Nat×Aa)}:VP C fid t v d≠zz (.op p args dst Bu b):=by rw[VP];grind
def wO{t:TypeId}{x:Operand}{d:Nat}{take:Bool}{p:Oc}{args:List Aa}{dst:Option Nat}{Bu:Bool}{b:Option (Nat×Aa)}:Md C U t x d take≠zz (.op p args dst Bu b):=by rw[Md];grind
def qM{t:TypeId}{x y:Operand}{p:Oc}{args:List Aa}{dst:Option Nat}{Bu:Bool}{b:Option (Nat×Aa)}:J2 C U t x y≠zz (.op p args dst Bu b):=by rw[J2];grind
def pg{o:Oper}{p:Oc}{args:List Aa}{dst:Option Nat}{Bu:Bool}{j:Option (Nat×Aa)}(hc:GQ C fid ops U o=zz (.op p args dst Bu j))(Ia:p.still=zo)(hr:Dd C γ0 w0 γ Z U h a w):
  IH C.P γ a o w p args/\dst=o.dst/\Bu=zl/\j=zy:=by
 unfold GQ at hc
 split at hc
 .split at hc
  .obtain⟨ws,e⟩:=NC hc;cases e
  .cases hc
 .split at hc
  .obtain⟨ws,e⟩:=NC hc;cases e
  .cases hc
 .rename_i c x y ho
  split at hc
  .obtain⟨ws,e⟩:=NC hc;cases e
  .obtain⟨ws,e⟩:=NC hc;cases e
  .obtain⟨as,g,b⟩:=Ef hc
   cases b
   exact⟨wM ho hr g,rfl,rfl,rfl⟩
 .split at hc
  .split at hc
   .split at hc<;>cases hc
   .exact absurd hc dN
  .cases hc
 .split at hc
  .exact absurd hc dN
  .cases hc
 .rename_i t parts ho
  split at hc
  .rename_i z ps hz hp
   split at hc
   .rename_i hb
    obtain⟨as,g,b⟩:=Ef hc
    cases b
    exact⟨qL hz hp hb (by simp[execOp,ho]) hr g,rfl,rfl,rfl⟩
   .cases hc
  .cases hc
 .split at hc
  .split at hc
   .split at hc
    .split at hc
     .cases hc;cases Ia
     .cases hq:BC C U _ with
      |none=>rw[hq] at hc;cases hc
      |some q=>rw[hq] at hc;cases hc;cases Ia
    .cases hc
   .cases hc
  .cases hc
 .split at hc
  .exact absurd hc wO
  .cases hc
 .split at hc
  .exact absurd hc qM
  .cases hc
 .rename_i x ho
  split at hc
  .cases hc
  .cases hc
  .obtain⟨as,g,b⟩:=Ef hc
   cases b
   exact⟨gX ho hr g,rfl,rfl,rfl⟩
 .rename_i op t x y k ho
  split at hc
  .rename_i q hq
   obtain⟨as,g,b⟩:=Ef hc
   cases b
   exact⟨o_ hq (by simp[execOp,ho]) hr g,rfl,rfl,rfl⟩
  .cases hc
 .rename_i op t x ho
  obtain⟨as,g,b⟩:=Ef hc
  cases b
  exact⟨yd (by simp[execOp,ho]) hr g,rfl,rfl,rfl⟩
 .rename_i src aNz x ho
  split at hc
  .cases hq:Ft C U x with
   |none=>rw[hq] at hc;cases hc
   |some q=>rw[hq] at hc;cases hc
  .split at hc
   .cases hq:Ft C U x with
    |none=>rw[hq] at hc;cases hc
    |some q=>rw[hq] at hc;cases hc
   .obtain⟨as,g,b⟩:=Ef hc
    cases b;cases Ia
  .rename_i q ND Tf hq
   obtain⟨as,g,b⟩:=Ef hc
   cases b
   refine⟨?_,rfl,rfl,rfl⟩
   unfold Yr at hq
   split at hq
   .rename_i hs hd
    cases hq
    exact wN hs hd (by simp[execOp,ho]) hr g
   .rename_i hs hd
    cases hq
    exact pc hs hd (by simp[execOp,ho]) hr g
   .cases hq
   .split at hq
    .cases hq;cases Ia
    .cases hq
   .split at hq
    .cases hq;cases Ia
    .cases hq
   .cases hq
  .cases hc
 .split at hc
  .cases hc
  .cases hc
 .cases hc
 .split at hc
  .split at hc<;>cases hc
  .cases hc
 .split at hc
  .split at hc<;>cases hc
  .cases hc
 .split at hc
  .split at hc<;>cases hc
  .cases hc
 .split at hc
  .split at hc<;>cases hc
  .cases hc
 .split at hc
  .split at hc
   .exact absurd hc LR
   .cases hc
  .cases hc
 .split at hc
  .cases hc
  .exact absurd hc LR
  .cases hc
 .split at hc
  .split at hc<;>first|exact absurd hc LR|cases hc
  .cases hc
 .split at hc
  .exact absurd hc LR
  .cases hc
 .rename_i t x lo hi ho
  split at hc
  .rename_i ht
   obtain⟨as,g,b⟩:=Ef hc
   cases b
   exact⟨VT (isStr:=true) ht (by simp[execOp,ho]) hr g,rfl,rfl,rfl⟩
  .rename_i e ht
   split at hc
   .rename_i n hn
    split at hc
    .exact absurd hc LR
    .obtain⟨as,g,b⟩:=Ef hc
     cases b
     exact⟨VT (isStr:=false) ⟨e,ht,hn⟩ (by simp[execOp,ho]) hr g,rfl,rfl,rfl⟩
   .cases hc
  .cases hc
 .rename_i t x f ho
  split at hc
  .rename_i off sh d hf hd
   split at hc
   .cases hc
   .cases hc
   .obtain⟨as,g,b⟩:=Ef hc
    cases b
    exact⟨WW hf (by simp[execOp,ho]) hr g,hd.symm,rfl,rfl⟩
  .cases hc
 .rename_i t x f ho
  split at hc
  .rename_i off sh hf
   obtain⟨as,g,b⟩:=Ef hc
   cases b
   exact⟨qK hf (by simp[execOp,ho]) hr g,rfl,rfl,rfl⟩
  .cases hc
 .rename_i t x i ho
  split at hc
  .rename_i e ht
   split at hc
   .rename_i n hn
    obtain⟨as,g,b⟩:=Ef hc
    cases b
    exact⟨YE ht hn (by simp[execOp,ho]) hr g,rfl,rfl,rfl⟩
   .cases hc
  .rename_i len e ht
   split at hc
   .rename_i n hn
    split at hc
    .cases hc
    .obtain⟨as,g,b⟩:=Ef hc
     cases b
     exact⟨bV ht hn (by simp[execOp,ho]) hr g,rfl,rfl,rfl⟩
   .cases hc
  .cases hc
 .rename_i t x i ho
  split at hc
  .rename_i ht
   obtain⟨as,g,b⟩:=Ef hc
   cases b
   exact⟨WX ht (by simp[execOp,ho]) hr g,rfl,rfl,rfl⟩
  .rename_i len e ht
   split at hc
   .rename_i n sh hn vN
    obtain⟨as,g,b⟩:=Ef hc
    cases b
    exact⟨WY ht hn vN (by simp[execOp,ho]) hr g,rfl,rfl,rfl⟩
   .cases hc
  .cases hc
 .rename_i x i ho
  obtain⟨as,g,b⟩:=Ef hc
  cases b
  exact⟨pd (by simp[execOp,ho]) hr g,rfl,rfl,rfl⟩
 .rename_i c ho
  unfold SA at hc
  split at hc
  .rename_i hcl
   split at hc
   .rename_i t h0
    split at hc
    .rename_i ht
     obtain⟨as,g,b⟩:=Ef hc
     cases b
     exact⟨dM (isStr:=true) ho hcl h0 ht hr g,rfl,rfl,rfl⟩
    .rename_i e ht
     obtain⟨as,g,b⟩:=Ef hc
     cases b
     exact⟨dM (isStr:=false) ho hcl h0 ⟨e,ht⟩ hr g,rfl,rfl,rfl⟩
    .cases hc
   .cases hc
  .split at hc
   .split at hc
    all_goals first
     |(cases hc;done)
     | (split at hc
        . split at hc
          . split at hc
            . split at hc
              . split at hc
                . cases hc
                . split at hc
                  . cases hc
                  . cases hc; cases Ia
              . split at hc <;> cases hc
            . cases hc
          . cases hc
        . cases hc)
   .cases hc
  .split at hc
   .split at hc
    all_goals first
     |(cases hc;done)
     | (split at hc
        . exact absurd hc LR
        . cases hc)
   .cases hc
  .split at hc
   .split at hc
    .split at hc
     .exact absurd hc LR
     .cases hc
    .cases hc
   .cases hc
  .rename_i hcl
   split at hc
   .obtain⟨as,g,b⟩:=Ef hc
    cases b
    exact⟨Tz (isMax:=true) ho hcl hr g,rfl,rfl,rfl⟩
   .cases hc
  .rename_i hcl
   split at hc
   .obtain⟨as,g,b⟩:=Ef hc
    cases b
    exact⟨Tz (isMax:=false) ho hcl hr g,rfl,rfl,rfl⟩
   .cases hc
  .split at hc
   .split at hc
    .split at hc
     .exact absurd hc LR
     .cases hc
    .cases hc
   split at hc
   .cases hq:BC C U c.args.toList with
    |none=>rw[hq] at hc;cases hc
    |some q=>
     rw[hq] at hc
     simp only[B6,BF] at hc
     split at hc<;>cases hc
   .cases hc
  .split at hc<;>cases hc
  .cases hc
 .cases hc
end
end Go.Am
end
