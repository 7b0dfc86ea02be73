/- Lemmas -/
import Derived.Test.YtdejbjapknkdnaaGreatDoorV2
import Derived.Laws.Slices
set_option linter.all false
section
namespace Go.Am
open Go
section
variable{P:Program}{γ:Gh}{w:World}
def S3{a:Bool}{v:Value}(h:BJ γ (.bool a) v):v= .bool a:=h
def Er{k:IntKind}{a:Int}{v:Value}(h:BJ γ (.int k a) v):v= .int k a:=h
def OJ{a:Ad}{v:Value}(h:BJ γ (.str a) v):v= .string ⟨⟨a⟩⟩:=h
def A3.ē{us:List Value}(h:A3 γ [] us):us=[]:=h
def A3.MF{a:Aa}{l:List Aa}{us:List Value}(h:A3 γ (a::l) us):∃u DB,us=u::DB/\BJ γ a u/\A3 γ l DB:=h
def A3.one{a:Aa}{us:List Value}(h:A3 γ [a] us):∃u,us=[u]/\BJ γ a u:=by obtain⟨u,DB,rfl,h1,h2⟩:=h;rw[h2.ē];exact⟨u,rfl,h1⟩
def A3.Mt{a b:Aa}{us:List Value}(h:A3 γ [a,b] us):∃u v,us=[u,v]/\BJ γ a u/\BJ γ b v:=by obtain⟨u,DB,rfl,h1,h2⟩:=h;obtain⟨v,rfl,h3⟩:=h2.one;exact⟨u,v,rfl,h1,h3⟩
def A3.aH{a b c:Aa}{us:List Value}(h:A3 γ [a,b,c] us):∃u v x,us=[u,v,x]/\BJ γ a u/\BJ γ b v/\BJ γ c x:=by obtain⟨u,DB,rfl,h1,h2⟩:=h;obtain⟨v,x,rfl,h3,d⟩:=h2.Mt;exact⟨u,v,x,rfl,h1,h3,d⟩
def Value.Ki:Value->Bool
 | .bool _| .pointer _| .slice _ _ _| .func _ _ _| .nilFunc| .map _=>true
 |_=>false
def Uo{op:BinOp}{neg:Bool}(RA:(op= .eql/\neg=false)\/(op= .neq/\neg=true))(t:TypeId)(c b:Operand){x y:Value}(hx:Value.Ki x=true)(hy:Value.Ki y=true){e:Bool}
  (he:(Op.equal t x y).run P w= .ok e w):(do eqGuard op t c b x y;binOp op t x y:Sem Value).run P w= .ok (.bool (e != neg)) w:=by
 have hg:eqGuard op t c b x y=pure ():=by rcases RA with⟨rfl,_⟩|⟨rfl,_⟩<;>cases x<;>simp[Value.Ki] at hx<;>rfl
 rw[hg];rcases RA with⟨rfl,rfl⟩|⟨rfl,rfl⟩
 .have hb:binOp .eql t x y=(do pure (.bool (<-Op.equal t x y))):=by cases x<;>simp[Value.Ki] at hx<;>cases y<;>simp[Value.Ki] at hy<;>rfl
  simp[hb,he]
 .have hb:binOp .neq t x y=(do pure (.bool (!(<-Op.equal t x y)))):=by cases x<;>simp[Value.Ki] at hx<;>cases y<;>simp[Value.Ki] at hy<;>rfl
  simp[hb,he]
def kD{op:BinOp}{neg:Bool}(RA:(op= .eql/\neg=false)\/(op= .neq/\neg=true))(t:TypeId)(d c:Operand)(ht:P.underlying t=some .bool)(a b:Bool):
  (do eqGuard op t d c (.bool a) (.bool b);binOp op t (.bool a) (.bool b):Sem Value).run P w= .ok (.bool ((a==b) != neg)) w:=
 Uo RA t d c rfl rfl (run_equalIn_bool' w 9999 t a b ht)
def VV{d:Nat}{t e:TypeId}(ht:P.underlying t=some (.pointer e))(hz:∃n,BR P e=some (n+1)){a b:Aa}{x y:Value}(hx:BJ γ a x)(hy:BJ γ b y){r:Bool}(h:uZ a b=some r):
  (Op.equalIn (d+1) t x y).run P w= .ok r w/\Value.Ki x=true/\Value.Ki y=true:=by
 obtain⟨n,hn⟩:=hz;unfold uZ at h;split at h
 .rename_i q;cases h;rw[show x= .pointer none from hx];have:∃p,y= .pointer p/\p.isNone=q.isNone:=by
   cases q with
   |none=>exact⟨none,hy,rfl⟩
   |some p=>obtain⟨i,o⟩:=p;obtain⟨b,_,rfl⟩:=hy;exact⟨_,rfl,rfl⟩
  obtain⟨p,rfl,hp⟩:=this;exact⟨by simp[Op.equalIn,run_underlying ht,hp],rfl,rfl⟩
 .rename_i p;cases h;obtain⟨i,o⟩:=p;obtain⟨b,_,rfl⟩:=hx;rw[show y= .pointer none from hy];exact⟨by simp[Op.equalIn,run_underlying ht],rfl,rfl⟩
 .rename_i p q;split at h;.rename_i he;cases h;subst he;obtain⟨i,o⟩:=p;obtain⟨b,hb,rfl⟩:=hx;obtain⟨b',RY,rfl⟩:=hy;rw[hb] at RY;cases RY;exact⟨by simp[Op.equalIn,run_underlying ht,DG hn,sameAddr],rfl,rfl⟩
  .cases h
 .cases h;rw[show x= .pointer none from hx];obtain⟨b,o,rfl,_⟩:=hy;exact⟨by simp[Op.equalIn,run_underlying ht],rfl,rfl⟩
 .cases h;rw[show y= .pointer none from hy];obtain⟨b,o,rfl,_⟩:=hx;exact⟨by simp[Op.equalIn,run_underlying ht],rfl,rfl⟩
 .cases h
def EH{d:Nat}{t e:TypeId}(ht:P.underlying t=some (.slice e)){p q:Option Addr}{n c m k:Nat}(h:p=none\/q=none):
  (Op.equalIn (d+1) t (.slice p n c) (.slice q m k)).run P w= .ok (p.isNone&&q.isNone) w:=by
 cases p<;>cases q<;>simp at h<;>simp[Op.equalIn,run_underlying ht]
def MG{d:Nat}{t:TypeId}{a b:Array TypeId}{c:Bool}(ht:P.underlying t=some (.func a b c)){f:Fn}{x y:Array Value}:
  (Op.equalIn (d+1) t .nilFunc .nilFunc).run P w= .ok true w/\(Op.equalIn (d+1) t .nilFunc (.func f x y)).run P w= .ok false w/\(Op.equalIn (d+1) t (.func f x y) .nilFunc).run P w= .ok false w:=by
 refine⟨?_,?_,?_⟩<;>simp[Op.equalIn,run_underlying ht]
def L3{d:Nat}{t k e:TypeId}(ht:P.underlying t=some (.map k e)){p q:Option Nat}(h:p=none\/q=none):
  (Op.equalIn (d+1) t (.map p) (.map q)).run P w= .ok (p.isNone&&q.isNone) w:=by
 cases p<;>cases q<;>simp at h<;>simp[Op.equalIn,run_underlying ht]
def VW{d:Nat}{t:TypeId}{k:NK}(ht:match k with| .sl=>∃e,P.underlying t=some (.slice e)| .fn=>∃a b c,P.underlying t=some (.func a b c)| .mp=>∃a b,P.underlying t=some (.map a b))
  {a b:Aa} {x y:Value} (hx:BJ γ a x) (hy:BJ γ b y) {r:Bool} (h:u0 k a b=some r):
  (Op.equalIn (d+1) t x y).run P w= .ok r w/\Value.Ki x=true/\Value.Ki y=true:=by
 unfold u0 at h;split at h;case h_1=>obtain⟨e,ht⟩:=ht;cases h;rw[show x= .slice none 0 0 from hx,show y= .slice none 0 0 from hy];exact⟨EH ht (.inl rfl),rfl,rfl⟩
 case h_2=>obtain⟨e,ht⟩:=ht;cases h;rw[show x= .slice none 0 0 from hx];obtain⟨_,_,rfl,_⟩:=hy;exact⟨EH ht (.inl rfl),rfl,rfl⟩
 case h_3=>obtain⟨e,ht⟩:=ht;cases h;rw[show y= .slice none 0 0 from hy];obtain⟨_,_,rfl,_⟩:=hx;exact⟨EH ht (.inr rfl),rfl,rfl⟩
 case h_4=>obtain⟨e,ht⟩:=ht;cases h;rw[show x= .slice none 0 0 from hx];obtain⟨_,rfl⟩:=hy;exact⟨EH ht (.inl rfl),rfl,rfl⟩
 case h_5=>obtain⟨e,ht⟩:=ht;cases h;rw[show y= .slice none 0 0 from hy];obtain⟨_,rfl⟩:=hx;exact⟨EH ht (.inr rfl),rfl,rfl⟩
 case h_6=>obtain⟨e,ht⟩:=ht;cases h;rw[show x= .slice none 0 0 from hx];obtain⟨_,_,_,rfl,_⟩:=hy;exact⟨EH ht (.inl rfl),rfl,rfl⟩
 case h_7=>obtain⟨e,ht⟩:=ht;cases h;rw[show y= .slice none 0 0 from hy];obtain⟨_,_,_,rfl,_⟩:=hx;exact⟨EH ht (.inr rfl),rfl,rfl⟩
 case h_8=>obtain⟨_,_,_,ht⟩:=ht;cases h;rw[show x= .nilFunc from hx,show y= .nilFunc from hy];exact⟨(MG ht (f:= .func 0) (x:=#[]) (y:=#[])).1,rfl,rfl⟩
 case h_9=>obtain⟨_,_,_,ht⟩:=ht;cases h;rw[show x= .nilFunc from hx];obtain⟨_,_,rfl,_⟩:=hy;exact⟨(MG ht).2.1,rfl,rfl⟩
 case h_10=>obtain⟨_,_,_,ht⟩:=ht;cases h;rw[show y= .nilFunc from hy];obtain⟨_,_,rfl,_⟩:=hx;exact⟨(MG ht).2.2,rfl,rfl⟩
 case h_11=>
  rename_i q;obtain⟨_,_,ht⟩:=ht;cases h;rw[show x= .map none from hx];cases q with
  |none=>rw[show y= .map none from hy];exact⟨L3 ht (.inl rfl),rfl,rfl⟩
  |some id=>obtain⟨b,_,rfl⟩:=hy;exact⟨L3 ht (.inl rfl),rfl,rfl⟩
 case h_12=>obtain⟨_,_,ht⟩:=ht;cases h;rw[show y= .map none from hy];obtain⟨b,_,rfl⟩:=hx;exact⟨L3 ht (.inr rfl),rfl,rfl⟩
 .cases h
def iz{op:BinOp}{args:List Aa}{u:Aa}(h:Az (.int op) args=some u):∃k a l b,args=[.int k a,.int l b]/\uY op k a l b=some u:=by
 simp only[Az] at h;split at h;.exact⟨_,_,_,_,rfl,h⟩
 .cases h
def i_{op:BinOp}{args:List Aa}{u:Aa}(h:Az (.str op) args=some u):∃a b,args=[.str a,.str b]/\jX op a b=some u:=by
 simp only[Az] at h;split at h;.exact⟨_,_,rfl,h⟩
 .cases h
def kE{op:BinOp}{t:TypeId}{p:Zf}(hp:QT P op t=some p)(f c:Operand){args:List Aa}{x y:Value}(ha:A3 γ args [x,y]){u:Aa}(h:Az p args=some u):
  ∃v,(do eqGuard op t f c x y;binOp op t x y:Sem Value).run P w= .ok v w/\BJ γ u v:=by
 unfold QT at hp;split at hp;.cases hp;obtain⟨k,a,l,b,rfl,h⟩:=iz h;obtain⟨_,_,e,hx,hy⟩:=ha.Mt;cases e;rw[Er hx,Er hy];exact j6 t f c h
 .cases hp;obtain⟨a,b,rfl,h⟩:=i_ h;obtain⟨_,_,e,hx,hy⟩:=ha.Mt;cases e;rw[OJ hx,OJ hy];exact j7 t f c h
 .rename_i d h1 h2 hu;obtain⟨neg,RA,g⟩:∃neg,((op= .eql/\neg=false)\/(op= .neq/\neg=true))/\Uh P t neg d=some p:=by cases op<;>first|cases hp;done|exact⟨false,.inl ⟨rfl,rfl⟩,hp⟩|exact⟨true,.inr ⟨rfl,rfl⟩,hp⟩
  clear h1 h2 hp;have hp:=g;clear g;unfold Uh at hp;split at hp
  .cases hp;simp only[Az] at h;split at h;.obtain⟨_,_,e,hx,hy⟩:=ha.Mt;cases e;cases h;rw[S3 hx,S3 hy];exact⟨_,kD RA t f c hu _ _,rfl⟩
   .cases h
  .split at hp
   .rename_i hg;cases hk:PU P 20 t with
    |none=>rw[hk] at hp;cases hp
    |some ks=>
     rw[hk] at hp;cases hp;simp only[Az] at h;split at h;.obtain⟨_,_,e,hx,hy⟩:=ha.Mt;cases e;exact kC RA hg hk ⟨_,hu⟩ hx hy h
     .cases h
   .cases hp
  .split at hp;.cases hp
   .rename_i e hz;cases hp;simp only[Az] at h;split at h
    .rename_i a b;obtain⟨_,_,e,hx,hy⟩:=ha.Mt;cases e;cases hq:uZ a b with
     |none=>rw[hq] at h;cases h
     |some r=>rw[hq] at h;cases h;obtain⟨m,j,i⟩:=VV (w:=w) (d:=9999) hu (by cases Zp:BR P e with|none=>rw[Zp] at hz;exact absurd rfl hz|some n=>cases n with|zero=>rw[Zp] at hz;exact absurd rfl hz|succ n=>exact⟨n,rfl⟩) hx hy hq;exact⟨_,Uo RA t f c j i m,rfl⟩
    .cases h
  all_goals first
   |cases hp;done
   | (cases hp
      simp only [Az] at h
      split at h
      . rename_i a b
        obtain ⟨_, _, e, hx, hy⟩ := ha.Mt
        cases e
        cases hq : u0 _ a b with
        | none => rw [hq] at h; cases h
        | some r =>
          rw [hq] at h; cases h
          obtain ⟨m, j, i⟩ := VW (w := w) (P := P) (t := t) (d := 9999) (by first | exact ⟨_, hu⟩ | exact ⟨_, _, hu⟩ | exact ⟨_, _, _, hu⟩) hx hy hq
          exact ⟨_, Uo RA t f c j i m, rfl⟩
      . cases h)
 .cases hp
end
end Go.Am
end
section
namespace Go.Am
open Go
section
variable{P:Program}{γ:Gh}{w:World}
def aCb{op:UnOp}{a u:Aa}{x:Value}(hx:BJ γ a x)(h:aB2 op a=some u):∃v,(Op.unary op x).run P w= .ok v w/\BJ γ u v:=by
 unfold aB2 at h;split at h;.cases h;rw[S3 hx];exact⟨_,rfl,rfl⟩
 .cases h;rw[Er hx];exact⟨_,rfl,rfl⟩
 .rename_i k n;rw[Er hx];unfold aAM at h;cases hs:QR (Op.unary .xor (.int k n)) with
  |none=>rw[hs] at h;cases h
  |some v=>
   rw[hs] at h;have b:=Xk hs;simp only[Ck] at h;split at h;.cases h;exact⟨_,by rw[b];rfl,rfl⟩
   .cases h
 .cases h
def dB{src dst:TypeId}{k l k':IntKind}{n:Int}(hs:P.underlying src=some (.int l))(hd:P.underlying dst=some (.int k)):(convert src dst (.int k' n)).run P w= .ok (.int k (k.wrap n)) w:=by simp[convert,run_underlying hs,run_underlying hd,Conv.intToInt]
def dC{src dst:TypeId}{l k':IntKind}{n:Int}(hs:P.underlying src=some (.int l))(hd:P.underlying dst=some .string):(convert src dst (.int k' n)).run P w= .ok (.string (Utf8.encode n)) w:=by simp[convert,run_underlying hs,run_underlying hd,Conv.intToString]
def ja{t:TypeId}{f off:Nat}{sh:Option Nat}(hf:IE P t f=some (off,sh)){cs:List Aa}{x:Value}(hx:BJ γ (.agg cs) x){u:Aa}(h:Fg cs off sh=some u):∃v,(Instr.field t x f).run P w= .ok v w/\BJ γ u v:=by
 unfold IE at hf;split at hf
 .rename_i fs hu;split at hf
  .rename_i fd vN;split at hf;.rename_i n b h1 h2;cases hf;obtain⟨us,rfl,hr,h1c⟩:=hx;obtain⟨v,p,q⟩:=j8 (w:=w) h2 hr h1c h;exact⟨v,by simp[Instr.field,run_underlying hu,vN,asAgg,p],q⟩
   .cases hf
  .cases hf
 .cases hf
def R4{i:Int}{len j:Nat}(h:MA i len=some j):0<=i/\i<len/\i.toNat=j:=by
 unfold MA at h;split at h;.rename_i hc;cases h;exact⟨hc.1,hc.2,rfl⟩
 .cases h
def Zq{t e:TypeId}{len n:Nat}{sh:Option Nat}(ht:P.underlying t=some (.array len e))(hn:BR P e=some n)(oV:Fc P e=some sh){cs:List Aa}{x:Value}(hx:BJ γ (.agg cs) x){k:IntKind}{i:Int}{j:Nat}
  (hi:MA i len=some j) {u:Aa} (h:Fg cs (j*n) sh=some u):∃v,(Instr.index t x (.int k i)).run P w= .ok v w/\BJ γ u v:=by
 obtain⟨us,rfl,hr,h1c⟩:=hx;obtain⟨d,c,b⟩:=R4 hi;obtain⟨v,p,q⟩:=j8 (w:=w) oV hr h1c h;exact⟨v,by simp[Instr.index,asIntOf,run_underlying ht,d,c,DG hn,b,p],q⟩
def Zr{t:TypeId}(ht:P.underlying t=some .string){s:Ad}{k:IntKind}{i:Int}{b:UInt8}(h0:0<=i)(h:s[i.toNat]?=some b):
  (Instr.index t (.string ⟨⟨s⟩⟩) (.int k i)).run P w= .ok (.int .u8 b.toNat) w:=by
 obtain⟨hlt,hb⟩:=Af.1 h;have e:(⟨⟨s⟩⟩:ByteArray)[i.toNat]?=some b:=by rw[ByteArray.getElem?_lt' _ _ (show i.toNat<(⟨⟨s⟩⟩:ByteArray).size from hlt),<-hb];rfl
 simp[Instr.index,asIntOf,run_underlying ht,h0,e]
def vO{p u:Aa}{x:Value}{n:Nat}(hx:BJ γ p x)(h:WY p n=some u):∃a,x= .pointer (some a)/\BJ γ u (.pointer (some (a.add n))):=by
 unfold WY at h;split at h;.rename_i cs;cases h;obtain⟨b,o,rfl,hm⟩:=hx;refine⟨_,rfl,b,o+n,?_,hm.drop n⟩;unfold Addr.add;split<;>simp_all
 .rename_i id o;cases h;obtain⟨b,hb,rfl⟩:=hx;refine⟨_,rfl,b,hb,?_⟩;unfold Addr.add;split<;>simp_all
 .cases h
def kF{t:TypeId}{f off:Nat}{sh:Option Nat}(hf:IE P t f=some (off,sh)){p u:Aa}{x:Value}(hx:BJ γ p x)(h:WY p off=some u):∃v,(Instr.fieldAt t x f).run P w= .ok v w/\BJ γ u v:=by
 obtain⟨a,rfl,hu⟩:=vO hx h;refine⟨_,?_,hu⟩;unfold IE at hf;split at hf
 .rename_i fs iy;split at hf
  .rename_i fd vN;split at hf;.rename_i n b h1 h2;cases hf;simp[Instr.fieldAt,run_underlying iy,vN,Instr.sureAddr,fieldPlace,DG h1]
   .cases hf
  .cases hf
 .cases hf
def pM{t e:TypeId}{n:Nat}(ht:P.underlying t=some (.slice e))(hn:BR P e=some n){s u:Aa}{x:Value}(hx:BJ γ s x){k:IntKind}{i:Int}(h:elemOf n s i=some u):
  ∃v,(Instr.indexAt t x (.int k i)).run P w= .ok v w/\BJ γ u v:=by
 have I3:P.underlying t=some (.slice (P.elem t)):=by simp[Program.elem,ht]
 have he:P.elem t=e:=by simp[Program.elem,ht]
 unfold elemOf at h;split at h
 .rename_i z As;split at h
  .rename_i hz;subst hz;split at h
   .rename_i h0;cases hr:As[i.toNat]? with
    |none=>rw[hr] at h;cases h
    |some row=>
     rw[hr] at h;cases h;obtain⟨d,cap,rfl,hc,hsp,hm⟩:=hx;obtain⟨hl,c⟩:=hm.get hr;have hlt:i<As.length:=by have:=(Af.1 hr).1;omega
     have pO:=OE hsp hc (by omega);generalize d.block=b at*;generalize d.off=o at*;subst pO;refine⟨.pointer (some ((⟨b,o,none⟩:Addr).add (i.toNat*z))),by rw[run_indexAt_slice w t _ _ _ _ _ I3,if_pos ⟨h0,hlt⟩,he,DG hn];rfl,b,o+i.toNat*z,?_,c⟩;unfold Addr.add;split<;>simp_all
   .cases h
  .cases h
 .rename_i id off len z;split at h
  .rename_i hz;subst hz;cases hj:MA i len with
   |none=>rw[hj] at h;cases h
   |some j=>rw[hj] at h;cases h;obtain⟨l,g,f⟩:=R4 hj;subst f;obtain⟨b,cap,hb,rfl,hc,hz⟩:=hx;refine⟨.pointer (some ((⟨b,off,none⟩:Addr).add (i.toNat*z))),by rw[run_indexAt_slice w t _ _ _ _ _ I3,if_pos ⟨l,g⟩,he,DG hn];rfl,b,hb,?_⟩;unfold Addr.add;split<;>simp_all
  .cases h
 .cases h
def jb{t e:TypeId}{len n:Nat}(ht:P.underlying t=some (.array len e))(hn:BR P e=some n){p u:Aa}{x:Value}(hx:BJ γ p x){k:IntKind}{i:Int}{j:Nat}(hj:MA i len=some j)(h:WY p (j*n)=some u):
  ∃v,(Instr.indexAt t x (.int k i)).run P w= .ok v w/\BJ γ u v:=by
 have I3:P.underlying t=some (.array (P.arrayLen t) (P.elem t)):=by simp[Program.elem,Program.arrayLen,ht]
 have he:P.elem t=e:=by simp[Program.elem,ht]
 have hl:P.arrayLen t=len:=by simp[Program.arrayLen,ht]
 obtain⟨a,rfl,hu⟩:=vO hx h;obtain⟨d,c,b⟩:=R4 hj;subst b;exact⟨_,by rw[run_indexAt_array w t _ _ _ I3,hl,if_pos ⟨d,c⟩,he,DG hn];rfl,hu⟩
def Ĕ{t ty:TypeId}{isStr:Bool}(ht:if isStr=true then P.underlying t=some .string else∃e,P.underlying t=some (.slice e)){ts:Array TypeId}(dD:ts[0]?=some t){s u:Aa}{x:Value}(hx:BJ γ s x)(h:lenOf isStr s=some u):
  ∃v,(Builtin.len_ ts ty #[x]).run P w= .ok v w/\BJ γ u v:=by
 cases isStr with
 |true=>
  replace ht:P.underlying t=some .string:=ht;unfold lenOf at h;split at h<;>first|cases h;done|skip
  simp only[BM] at h;cases h;rw[OJ hx];refine⟨_,by simp[Builtin.len_,dD,run_underlying ht];rfl,rfl⟩
 |false=>
  obtain⟨e,ht⟩:∃e,P.underlying t=some (.slice e):=ht;unfold lenOf at h;split at h;.cases h;obtain⟨c,cap,rfl,_⟩:=hx;exact⟨_,by simp[Builtin.len_,dD,run_underlying ht];rfl,rfl⟩
  .cases h;obtain⟨b,cap,_,rfl,_⟩:=hx;exact⟨_,by simp[Builtin.len_,dD,run_underlying ht];rfl,rfl⟩
  .cases h;rw[show x= .slice none 0 0 from hx];exact⟨_,by simp[Builtin.len_,dD,run_underlying ht];rfl,rfl⟩
  .cases h;obtain⟨b,rfl⟩:=hx;exact⟨_,by simp[Builtin.len_,dD,run_underlying ht];rfl,rfl⟩
  .cases h
  .cases h
def ĕ{vs:List Aa}{x:Value}(hx:BJ γ (.tuple vs) x){i:Nat}{u:Aa}(h:vs[i]?=some u):∃v,(Instr.extract x i).run P w= .ok v w/\BJ γ u v:=by
 obtain⟨us,rfl,hr⟩:=hx;obtain⟨v,b,q⟩:=hr.get h;exact⟨v,by
  have:us[i]?=some v:=by simpa using b
  simp[Instr.extract,this],q⟩
end
end Go.Am
end
section
namespace Go.Am
open Go
section
variable{P:Program}{γ:Gh}{w:World}
def OK{n:Int}{top j:Nat}(h:Ex n top=some j):0<=n/\n<=top/\n.toNat=j:=by
 unfold Ex at h;split at h;.rename_i hc;cases h;exact⟨hc.1,hc.2,rfl⟩
 .cases h
def KU{lo hi:Option Value}{as:List Aa}{len cap l h:Nat}{isSlice:Bool}(hb:DI lo.isSome hi.isSome len as=some (l,h))(hr:A3 γ as (lo.toList++hi.toList))(hc:len<=cap):
  (Instr.sliceBounds isSlice len cap lo hi none).run P w= .ok (l,h,cap) w/\l<=h/\h<=len:=by
 cases lo<;>cases hi<;>simp only[Option.isSome,DI] at hb
 .split at hb;.cases hb;exact⟨by simp[Instr.sliceBounds],AU _,Ab _⟩
  .cases hb
 .rename_i q;split at hb
  .rename_i k h';cases b:Ex h' len with
   |none=>rw[b] at hb;cases hb
   |some j=>
    rw[b] at hb;cases hb;obtain⟨f,g,d⟩:=OK b;obtain⟨_,e,hx⟩:=hr.one;cases e;rw[Er hx];refine⟨?_,AU _,by omega⟩;have:h'<=(cap:Int):=by omega
    simp[Instr.sliceBounds,run_sliceBound,f,this,d]
  .cases hb
 .rename_i p;split at hb
  .rename_i k l';cases b:Ex l' len with
   |none=>rw[b] at hb;cases hb
   |some j=>rw[b] at hb;cases hb;obtain⟨f,g,d⟩:=OK b;obtain⟨_,e,hx⟩:=hr.one;cases e;rw[Er hx];refine⟨?_,by omega,Ab _⟩;simp[Instr.sliceBounds,run_sliceBound,f,g,d]
  .cases hb
 .rename_i p q;split at hb
  .rename_i k l' k' h';cases b:Ex h' len with
   |none=>rw[b] at hb;cases hb
   |some j=>
    rw[b] at hb;simp only[Ck] at hb;cases c:Ex l' j with
    |none=>rw[c] at hb;cases hb
    |some i=>
     rw[c] at hb;cases hb;obtain⟨f,g,d⟩:=OK b;obtain⟨o,n,m⟩:=OK c;obtain⟨_,_,e,hx,hy⟩:=hr.Mt;cases e;rw[Er hx,Er hy];refine⟨?_,by omega,by omega⟩;have:h'<=(cap:Int):=by omega
     simp[Instr.sliceBounds,run_sliceBound,f,this,o,d,m,n]
  .cases hb
def ES.slice{As:List (List Aa)}{z b o:Nat}(h:ES γ As z b o)(l k:Nat):ES γ ((As.take k).drop l) z b (o+l*z):=by
 refine ES.GZ λi r hi=>?_;rw[Cu,Co] at hi;split at hi;.obtain⟨p,q⟩:=h.get hi;exact⟨p,by rw[show o+l*z+i*z=o+(l+i)*z by rw[BD];omega];exact q⟩
 .cases hi
def Ė{t:TypeId}{isStr:Bool}{size:Nat}(ht:if isStr=true then P.underlying t=some .string else∃e,P.underlying t=some (.slice e)/\BR P e=some size){s u:Aa}{x:Value}(hx:BJ γ s x){as:List Aa}{lo hi:Option Value}
  (hr:A3 γ as (lo.toList++hi.toList)) (h:I0 size isStr lo.isSome hi.isSome s as=some u):
  ∃v,(Instr.sliceAt t x lo hi none).run P w= .ok v w/\BJ γ u v:=by
 unfold I0 at h;split at h
 .split at h
  .rename_i s Rr;subst Rr;replace ht:P.underlying t=some .string:=ht;cases hb:DI lo.isSome hi.isSome s.length as with
   |none=>rw[hb] at h;cases h
   |some f=>
    obtain⟨l,k⟩:=f;rw[hb] at h;cases h;obtain⟨c,i,g⟩:=KU (P:=P) (w:=w) (isSlice:=false) hb hr (Ab _);rw[OJ hx,run_sliceAt_string w t _ _ _ _ ht];refine⟨.string ((⟨⟨s⟩⟩:ByteArray).extract l k),?_,?_⟩;.have e:(⟨⟨s⟩⟩:ByteArray).size=s.length:=rfl;simp only[Instr.slice,Sem.run_bind,run_underlying ht,Result.andThen_ok];simp only[e,c,Option.isSome,Cp,DU,Sem.run_bind,Sem.run_pure,Result.andThen_ok]
    .show Value.string _=Value.string _;congr 1
     apply ByteArray.ext;apply HJ;simp[ByteArray.data_extract,HX,List.drop_take]
  .cases h
 .rename_i z As;split at h
  .rename_i hc;obtain⟨rfl,rfl⟩:=hc;obtain⟨e,ht,hn⟩:∃e,P.underlying t=some (.slice e)/\BR P e=some z:=ht;have I3:P.underlying t=some (.slice (P.elem t)):=by simp[Program.elem,ht]
   have he:P.elem t=e:=by simp[Program.elem,ht]
   obtain⟨d,cap,rfl,hc,hsp,hm⟩:=hx;cases hb:DI lo.isSome hi.isSome As.length as with
   |none=>rw[hb] at h;cases h
   |some f=>
    obtain⟨l,k⟩:=f;rw[hb] at h;cases h;obtain⟨c,i,g⟩:=KU (P:=P) (w:=w) (isSlice:=true) hb hr hc;rw[run_sliceAt_slice w t _ _ _ _ I3,run_slice_any w t _ _ _ I3,c,he,Result.andThen_ok,DG hn];refine⟨_,rfl,?_⟩;show BJ γ (.sl z ((As.take k).drop l)) (.slice (if cap=l then some d else Option.map (λq:Addr=>q.add (l*z)) (some d)) (k-l) (cap-l));have hlen:((As.take k).drop l).length=k-l:=by simp;omega
    by_cases hcl:cap=l;.have:(As.take k).drop l=[]:=CQ (by omega);rw[this];simp only[hcl,BM];exact⟨d,l-l,by simp;omega,by simp,.inr (by omega),trivial⟩
    .rw[if_neg hcl];have pO:d=⟨d.block,d.off,none⟩:=by
      rcases hsp with hsp|hsp
      .cases d;simp_all
      .omega
     generalize d.block=b at*;generalize d.off=o at*;subst pO;refine⟨⟨b,o+l*z,none⟩,cap-l,?_,by omega,.inl rfl,hm.slice l k⟩;rw[hlen];simp only[BF];unfold Addr.add;split<;>simp_all
  .cases h
 .rename_i id off n z;split at h
  .rename_i hc;obtain⟨rfl,rfl⟩:=hc;obtain⟨e,ht,hn⟩:∃e,P.underlying t=some (.slice e)/\BR P e=some z:=ht;have I3:P.underlying t=some (.slice (P.elem t)):=by simp[Program.elem,ht]
   have he:P.elem t=e:=by simp[Program.elem,ht]
   obtain⟨b,cap,j,rfl,hc,hz,KT⟩:=hx;cases hb:DI lo.isSome hi.isSome n as with
   |none=>rw[hb] at h;cases h
   |some f=>
    obtain⟨l,k⟩:=f;rw[hb] at h;simp only[Ck] at h;split at h
    .rename_i vP;cases h;obtain⟨c,i,g⟩:=KU (P:=P) (w:=w) (isSlice:=true) hb hr hc;rw[run_sliceAt_slice w t _ _ _ _ I3,run_slice_any w t _ _ _ I3,c,he,Result.andThen_ok,DG hn];refine⟨_,rfl,b,cap-l,j,?_,by omega,⟨hz.1,Bn (Nat.sub_le _ _) hz.2⟩,?_⟩;.show Value.slice (if cap=l then some ⟨b,off,none⟩ else Option.map (λq:Addr=>q.add (l*z)) (some ⟨b,off,none⟩)) (k-l) (cap-l)=_;rw[if_neg (by omega)];simp only[BF];unfold Addr.add;split<;>simp_all
     .rw[KT,SC,<-BD,aLj (by omega)]
    .rename_i vP;cases h;obtain⟨c,i,g⟩:=KU (P:=P) (w:=w) (isSlice:=true) hb hr hc;rw[run_sliceAt_slice w t _ _ _ _ I3,run_slice_any w t _ _ _ I3,c,he,Result.andThen_ok,DG hn];have Xm:k-l=0:=by omega
     by_cases hcl:cap=l;.refine⟨_,rfl,⟨b,off,none⟩,cap-l,?_,by simp,.inl rfl,trivial⟩;show Value.slice (if cap=l then some ⟨b,off,none⟩ else Option.map (λq:Addr=>q.add (l*z)) (some ⟨b,off,none⟩)) (k-l) (cap-l)=_;rw[if_pos hcl,Xm];rfl
     .refine⟨_,rfl,(Addr.mk b off none).add (l*z),cap-l,?_,by simp,.inl ?_,trivial⟩;.show Value.slice (if cap=l then some ⟨b,off,none⟩ else Option.map (λq:Addr=>q.add (l*z)) (some ⟨b,off,none⟩)) (k-l) (cap-l)=_;rw[if_neg hcl,Xm];rfl
      .unfold Addr.add;split<;>simp_all
  .cases h
 .split at h;.cases h
  .rename_i Rr;have Rr:isStr=false:=by simpa using Rr
   subst Rr;obtain⟨e,ht,hn⟩:∃e,P.underlying t=some (.slice e)/\BR P e=some size:=ht;have I3:P.underlying t=some (.slice (P.elem t)):=by simp[Program.elem,ht]
   have he:P.elem t=e:=by simp[Program.elem,ht]
   rw[show x= .slice none 0 0 from hx];cases hb:DI lo.isSome hi.isSome 0 as with
   |none=>rw[hb] at h;cases h
   |some f=>
    obtain⟨l,k⟩:=f;rw[hb] at h;cases h;obtain⟨c,i,g⟩:=KU (P:=P) (w:=w) (isSlice:=true) hb hr (Ab _);rw[run_sliceAt_slice w t _ _ _ _ I3,run_slice_any w t _ _ _ I3,c,he,Result.andThen_ok,DG hn];refine⟨_,rfl,?_⟩;have:l=0:=by omega
    subst this;have:k=0:=by omega
    subst this;rfl
 .cases h
end
end Go.Am
end
section
namespace Go.Am
open Go
section
variable{P:Program}{γ:Gh}{w:World}
def Hz{a:Aa}{v:Value}(h:BJ γ a v)(hn:0<a.cells.length):A3 γ a.cells v.cells.toList/\∀u∈v.cells.toList,u.oneCell'=true:=by
 cases a with
 |agg cs=>obtain⟨us,rfl,p,q⟩:=h;exact⟨p,q⟩
 |tuple vs=>exact absurd hn (by simp[Aa.cells])
 |bool b=>rw[show v=_ from h];exact⟨⟨_,[],rfl,rfl,rfl⟩,by simp[Value.cells,Value.oneCell']⟩
 |int k n=>rw[show v=_ from h];exact⟨⟨_,[],rfl,rfl,rfl⟩,by simp[Value.cells,Value.oneCell']⟩
 |str s=>rw[show v=_ from h];exact⟨⟨_,[],rfl,rfl,rfl⟩,by simp[Value.cells,Value.oneCell']⟩
 |slnil=>rw[show v=_ from h];exact⟨⟨_,[],rfl,rfl,rfl⟩,by simp[Value.cells,Value.oneCell']⟩
 |GB z=>have h0:=h;obtain⟨b,rfl⟩:=h;exact⟨⟨_,[],rfl,h0,rfl⟩,by simp[Value.cells,Value.oneCell']⟩
 |nilFunc=>rw[show v=_ from h];exact⟨⟨_,[],rfl,rfl,rfl⟩,by simp[Value.cells,Value.oneCell']⟩
 |nilIface=>rw[show v=_ from h];exact⟨⟨_,[],rfl,rfl,rfl⟩,by simp[Value.cells,Value.oneCell']⟩
 |ptr p=>
  have h0:=h;cases p with
  |none=>rw[show v=_ from h];exact⟨⟨_,[],rfl,rfl,rfl⟩,by simp[Value.cells,Value.oneCell']⟩
  |some p=>obtain⟨i,o⟩:=p;obtain⟨b,_,rfl⟩:=h;exact⟨⟨_,[],rfl,h0,rfl⟩,by simp[Value.cells,Value.oneCell']⟩
 |B4 cs=>have h0:=h;obtain⟨b,o,rfl,_⟩:=h;exact⟨⟨_,[],rfl,h0,rfl⟩,by simp[Value.cells,Value.oneCell']⟩
 |sl z As=>have h0:=h;obtain⟨d,cap,rfl,_⟩:=h;exact⟨⟨_,[],rfl,h0,rfl⟩,by simp[Value.cells,Value.oneCell']⟩
 |C7 id off len z=>have h0:=h;obtain⟨b,cap,_,rfl,_⟩:=h;exact⟨⟨_,[],rfl,h0,rfl⟩,by simp[Value.cells,Value.oneCell']⟩
 |map m=>
  have h0:=h;cases m with
  |none=>rw[show v=_ from h];exact⟨⟨_,[],rfl,rfl,rfl⟩,by simp[Value.cells,Value.oneCell']⟩
  |some id=>obtain⟨b,_,rfl⟩:=h;exact⟨⟨_,[],rfl,h0,rfl⟩,by simp[Value.cells,Value.oneCell']⟩
 |func fn f c=>have h0:=h;obtain⟨fs,cs,rfl,_⟩:=h;exact⟨⟨_,[],rfl,h0,rfl⟩,by simp[Value.cells,Value.oneCell']⟩
 |iface t a=>have h0:=h;obtain⟨u,rfl,_⟩:=h;exact⟨⟨_,[],rfl,h0,rfl⟩,by simp[Value.cells,Value.oneCell']⟩
def OL:∀(vs:List Value) (off j:Nat) (cells:Array Value),off+j+vs.length<=cells.size->
  (vs.zipIdx j).foldl (λcs (c,i)=>cs.setIfInBounds (off+i) c) cells=(cells.toList.take (off+j)++vs++cells.toList.drop (off+j+vs.length)).toArray
 |[],off,j,cells,h=>by simp
 |v::vs,off,j,cells,h=>by
  simp only[uT,px];rw[OL vs off (j+1) _ (by simp at h⊢;omega)];simp only[AE] at h;have hk:off+j<cells.toList.length:=by simp;omega
  have e:(cells.setIfInBounds (off+j) v).toList=cells.toList.set (off+j) v:=by simp
  have d:(cells.toList.set (off+j) v).take (off+j+1)=cells.toList.take (off+j)++[v]:=by rw[List.take_add_one,Z5 (Ab _),AB hk];rfl
  have b:(cells.toList.set (off+j) v).drop (off+j+1+vs.length)=cells.toList.drop (off+j+1+vs.length):=aLk (by omega);rw[e,show off+(j+1)=off+j+1 by omega,d,b];rw[show off+j+(v::vs).length=off+j+1+vs.length by simp;omega];simp
def Xn{place:Nat->Option (Nat×Nat)}:∀{places:List (Nat×Nat)} {as:List Aa} {parts:List (Nat×Value)} {cs:List Aa} {us:Array Value} {GW:List Aa},B6 cs (places.zip as)=some GW->places.length=as.length->
  parts.map (λp=>place p.1)=places.map some->A3 γ as (parts.map (·.2))->A3 γ cs us.toList->(∀u∈us.toList,u.oneCell'=true)->
  ∃DB,Instr.fill place us parts=some DB/\A3 γ GW DB.toList/\∀u∈DB.toList,u.oneCell'=true
 |[],as,parts,cs,us,GW,h,hl,hp,ha,hr,h1=>by
  have:parts=[]:=by simpa using hp
  subst this;simp only[List.zip_nil_left,B6] at h;cases h;exact⟨us,rfl,hr,h1⟩
 |(off,size)::places,[],parts,cs,us,GW,h,hl,hp,ha,hr,h1=>by simp at hl
 |(off,size)::places,a::as,[],cs,us,GW,h,hl,hp,ha,hr,h1=>by simp at hp
 |(off,size)::places,a::as,(i,v)::parts,cs,us,GW,h,hl,hp,ha,hr,h1=>by
  simp only[aPV,B6] at h;split at h
  .rename_i hc;obtain⟨o,n,m⟩:=hc;simp only[Bd,Dq] at hp;obtain⟨_,_,e,pz,b⟩:=ha.MF;simp only[Bd,Dq] at e;obtain⟨l,k⟩:=e;subst l;subst k;obtain⟨c,g⟩:=Hz pz (by omega);have KT:v.cells.size=size:=by have:=c.length;simp at this;omega
   have aC:us.size=cs.length:=by have:=hr.length;simpa using this
   have hf:=OL v.cells.toList off 0 us (by simp[KT];omega);obtain⟨DB,f,r2,d⟩:=Xn (place:=place) (us:=(us.toList.take off++v.cells.toList++us.toList.drop (off+size)).toArray) h (by simpa using hl) hp.2 b
    (by simpa using((hr.take off).append c).append (hr.drop (off+size)))
    (λu hu=>by
     simp only[Aj] at hu;rcases hu with(hu|hu)|hu
     .exact h1 u (AZ hu)
     .exact g u hu
     .exact h1 u (Bc hu))
   refine⟨DB,?_,r2,d⟩;rw[Instr.fill];simp only[hp.1];rw[if_neg (by simp[KT];omega)];rw[<-f];congr 1
   have j:v.cells.toList.length=size:=by simpa using KT
   rw[<-aPW,aLl,hf];simp[j]
  .cases h
def Zt{v:Value}{a:Aa}(h:Lk v=some a):A3 γ a.cells v.cells.toList/\∀u∈v.cells.toList,u.oneCell'=true:=by
 have hr:=Fi (γ:=γ) h;unfold Lk at h;split at h
 .rename_i cs;cases hs:Ms cs.toList with
  |none=>rw[hs] at h;cases h
  |some as=>rw[hs] at h;cases h;exact NJ hs
 .refine Hz hr ?_;unfold PS at h;split at h<;>first|(cases h;simp[Aa.cells];done)|skip
  .split at h;.cases h;simp[Aa.cells]
   .cases h
  .cases h
def Pp{t:TypeId}{fs:Array Field}(hu:P.underlying t=some (.struct fs)){place:Nat->Option (Nat×Nat)}(dE:∀(i:Nat) (f:Field) (n:Nat),fs[i]?=some f->BR P f.type=some n->place i=some (f.offset,n)):
  ∀{parts:List (Nat×Operand)} {ps:List (Nat×Nat)},Kh P t parts=some ps->parts.map (λp=>place p.1)=ps.map some
 |[],ps,h=>by cases h;rfl
 |(i,x)::rest,ps,h=>by
  simp only[Kh,hu] at h;split at h
  .rename_i f hf;split at h;.rename_i n r h1 h2;cases h;simp[dE i f n hf h1,Pp hu dE h2]
   .cases h
  .cases h
def P1{t e:TypeId}{len n:Nat}(hu:P.underlying t=some (.array len e))(hn:BR P e=some n):
  ∀{parts:List (Nat×Operand)} {ps:List (Nat×Nat)},Kh P t parts=some ps->parts.map (λp=>some (p.1*n,n))=ps.map some
 |[],ps,h=>by cases h;rfl
 |(i,x)::rest,ps,h=>by
  simp only[Kh,hu] at h;split at h
  .split at h;.rename_i n' r h1 h2;cases h;rw[hn] at h1;cases h1;simp[P1 hu hn h2]
   .cases h
  .cases h
def Vg:∀(fs:List Field),(fs.all λf=>(BR P f.type).isSome)=true->∃places,fs.mapM (λf=>(P.info? f.type).map λi=>(f.offset,i.size))=some places/\
  ∀(i:Nat) (f:Field) (n:Nat),fs[i]?=some f->BR P f.type=some n->places[i]?=some (f.offset,n)
 |[],_=>⟨[],rfl,by simp⟩
 |f::fs,h=>by
  simp only[SD,A4] at h;obtain⟨rest,h1,h2⟩:=Vg fs h.2;cases hi:P.info? f.type with
  |none=>simp[BR,hi] at h
  |some b=>
   refine⟨(f.offset,b.size)::rest,by simp[hi,h1],λi g n hg hn=>?_⟩;cases i with
   |zero=>simp at hg;subst hg;simp[BR,hi] at hn;simp[hn]
   |succ i=>simpa using h2 i g n (by simpa using hg) hn
def jc{t:TypeId}{z:Aa}{parts:Array (Nat×Operand)}{ps:List (Nat×Nat)}{O:Operand->Value}(hz:GY P t=some z)(hp:Kh P t parts.toList=some ps)(hb:Wo P t=true){as:List Aa}
  (ha:A3 γ as ((parts.toList.map (·.2)).map O)) {u:Aa} (h:Az (.CT z.cells ps) as=some u):∃v,(Instr.build t (parts.map λ(i,x)=>(i,O x))).run P w= .ok v w/\BJ γ u v:=by
 simp only[Az] at h;split at h
 .rename_i hl;cases hf:B6 z.cells (ps.zip as) with
  |none=>rw[hf] at h;cases h
  |some cs=>
   rw[hf] at h;cases h;unfold GY at hz;cases hi:P.info? t with
   |none=>rw[hi] at hz;cases hz
   |some g=>
    cases Zp:g.zero with
    |none=>rw[hi] at hz;simp[Zp] at hz
    |some l=>
     rw[hi] at hz;simp only[Ck,Zp] at hz;obtain⟨d,c⟩:=Zt (γ:=γ) hz;have hparts:((parts.map λ(i,x)=>(i,O x)).toList.map (·.2))=(parts.toList.map (·.2)).map O:=by simp
     unfold Wo at hb;split at hb
     .rename_i fs hu;obtain⟨places,k,j⟩:=Vg fs.toList hb;obtain⟨DB,f1,f2,f3⟩:=Xn (place:=λi=>places.toArray[i]?) (parts:=(parts.map λ(i,x)=>(i,O x)).toList) hf hl
       (by have:=Pp hu (place:=λi=>places.toArray[i]?) (λi f n h1 h2=>by simpa using j i f n (by simpa using h1) h2) hp;rw[<-this];simp) (by rw[hparts];exact ha) d c
      exact⟨.agg DB,run_build w t _ _ (by unfold Program.built;simp only[hi,hu,Zp,k];exact f1),DB,rfl,f2,f3⟩
     .rename_i len e hu;cases he:P.info? e with
      |none=>simp[BR,he] at hb
      |some b=>
       obtain⟨DB,f1,f2,f3⟩:=Xn (place:=λi=>some (i*b.size,b.size)) (parts:=(parts.map λ(i,x)=>(i,O x)).toList) hf hl
        (by have:=P1 hu (n:=b.size) (by simp[BR,he]) hp;rw[<-this];simp) (by rw[hparts];exact ha) d c
       exact⟨.agg DB,run_build w t _ _ (by unfold Program.built;simp only[hi,hu,Zp,he];exact f1),DB,rfl,f2,f3⟩
     .cases hb
 .cases h
end
end Go.Am
end
section
namespace Go.Am
open Go
def Zf.still:Zf->Bool
 | .append _ _| .Cl _| .GB _| .s2b| .Zo=>false
 |_=>true
def HA{o:r_}{dst:Option Nat}{x:Option (List Aa)}{r:EF}(h:Uj o dst x=some r):∃args,x=some args/\r= .mem o args dst:=by
 unfold Uj at h;split at h;.cases h;exact⟨_,rfl,rfl⟩
 .cases h
def Ly{o:r_}{dst:Option Nat}{x:Option (List Aa)}{p:Zf}{args:List Aa}{d:Option Nat}{BN:Bool}{b:Option (Nat×Aa)}:¬Uj o dst x=some (.op p args d BN b):=λh=>by obtain⟨_,_,e⟩:=HA h;cases e
def DR{p:Zf}{dst:Option Nat}{x:Option (List Aa)}{r:EF}(h:Ui p dst x=some r):∃args,x=some args/\r= .op p args dst false none:=by
 cases x with
 |none=>cases h
 |some args=>cases h;exact⟨args,rfl,rfl⟩
section
variable{C:FT}{γ0 γ:Gh}{w0 w:World}{Z:Nat->Nat}{U:BL}{h:Ae}{a:Act}{fid:FuncId}{ops:List Oper}
def Ik(P:Program)(γ:Gh)(a:Act)(o:Oper)(w:World)(p:Zf)(args:List Aa):Prop:=
 ∀u,Az p args=some u->∃v,(execOp a.eval o).run P w= .ok (.value v) w/\BJ γ u v
def EP{P:Program}{s:Sem Value}{v:Value}(hs:s.run P w= .ok v w):(do pure (Next.value (<-s)):Sem Next).run P w= .ok (.value v) w:=by simp[hs]
def pP{o:Oper}{c x y:Operand}(ho:o.op= .pick c x y)(hr:C4 C γ0 w0 γ Z U h a w){args:List Aa}(ha:Bm C U [c,x,y]=some args):Ik C.P γ a o w .pick args:=by
 intro u hu;simp only[Az] at hu;split at hu;.rename_i b p q;cases hu;obtain⟨_,_,_,e,h1,h2,h3⟩:=(DQ hr ha).aH;simp only[Bd,Dz,Dq] at e;obtain⟨g,f,d,_⟩:=e;rw[<-g] at h1;rw[<-f] at h2;rw[<-d] at h3;refine⟨if b then a.eval x else a.eval y,?_,by cases b<;>simpa⟩;simp[execOp,ho,S3 h1,asBool]
 .cases hu
def jd{o:Oper}{op:BinOp}{t:TypeId}{x y:Operand}{p:Zf}(hp:QT C.P op t=some p)(he:execOp a.eval o=(do pure (Next.value (<-(do eqGuard op t x y (a.eval x) (a.eval y);binOp op t (a.eval x) (a.eval y):Sem Value)))))
  (hr:C4 C γ0 w0 γ Z U h a w) {args:List Aa} (ha:Bm C U [x,y]=some args):Ik C.P γ a o w p args:=by
 intro u hu;obtain⟨v,c,b⟩:=kE (w:=w) hp x y (DQ hr ha) hu;exact⟨v,by rw[he];exact EP c,b⟩
def GD(hr:C4 C γ0 w0 γ Z U h a w){x:Operand}{args:List Aa}(ha:Bm C U [x]=some args):∃u,args=[u]/\BJ γ u (a.eval x):=by
 have h1:=DQ hr ha;cases args with
 |nil=>cases h1
 |cons u us=>
  obtain⟨_,_,e,h2,h3⟩:=h1.MF;cases e;cases us with
  |nil=>exact⟨u,rfl,h2⟩
  |cons _ _=>obtain⟨_,_,e,_⟩:=h3.MF;cases e
def E1(hr:C4 C γ0 w0 γ Z U h a w){x y:Operand}{args:List Aa}(ha:Bm C U [x,y]=some args):∃u v,args=[u,v]/\BJ γ u (a.eval x)/\BJ γ v (a.eval y):=by
 have h1:=DQ hr ha;cases args with
 |nil=>cases h1
 |cons u us=>
  obtain⟨_,_,e,h2,h3⟩:=h1.MF;cases e;cases us with
  |nil=>cases h3
  |cons v vs=>
   obtain⟨_,_,e,c,b⟩:=h3.MF;cases e;cases vs with
   |nil=>exact⟨u,v,rfl,h2,c⟩
   |cons _ _=>obtain⟨_,_,e,_⟩:=b.MF;cases e
def tz{o:Oper}{op:UnOp}{x:Operand}(he:execOp a.eval o=(do pure (Next.value (<-Op.unary op (a.eval x)))))
  (hr:C4 C γ0 w0 γ Z U h a w) {args:List Aa} (ha:Bm C U [x]=some args):Ik C.P γ a o w (.un op) args:=by
 intro u hu;obtain⟨v,rfl,h1⟩:=GD hr ha;simp only[Az] at hu;obtain⟨r,c,b⟩:=aCb (P:=C.P) (w:=w) h1 hu;exact⟨r,by rw[he];exact EP c,b⟩
def pQ{o:Oper}{src dst:TypeId}{k l:IntKind}{x:Operand}(hs:C.P.underlying src=some (.int l))(hd:C.P.underlying dst=some (.int k))(he:execOp a.eval o=(do pure (Next.value (<-convert src dst (a.eval x)))))
  (hr:C4 C γ0 w0 γ Z U h a w) {args:List Aa} (ha:Bm C U [x]=some args):Ik C.P γ a o w (.conv k) args:=by
 intro u hu;obtain⟨v,rfl,h1⟩:=GD hr ha;simp only[Az] at hu;split at hu;.rename_i e;cases e;cases hu;rw[Er h1] at he;exact⟨_,by rw[he];exact EP (dB hs hd),rfl⟩
 .cases hu
def je{o:Oper}{src dst:TypeId}{l:IntKind}{x:Operand}(hs:C.P.underlying src=some (.int l))(hd:C.P.underlying dst=some .string)(he:execOp a.eval o=(do pure (Next.value (<-convert src dst (a.eval x)))))
  (hr:C4 C γ0 w0 γ Z U h a w) {args:List Aa} (ha:Bm C U [x]=some args):Ik C.P γ a o w .i2s args:=by
 intro u hu;obtain⟨v,rfl,h1⟩:=GD hr ha;simp only[Az] at hu;split at hu;.rename_i e;cases e;cases hu;rw[Er h1] at he;exact⟨_,by rw[he];exact EP (dC hs hd),rfl⟩
 .cases hu
def kG{o:Oper}{t:TypeId}{x:Operand}{f off:Nat}{sh:Option Nat}(hf:IE C.P t f=some (off,sh))(he:execOp a.eval o=(do pure (Next.value (<-Instr.field t (a.eval x) f))))
  (hr:C4 C γ0 w0 γ Z U h a w) {args:List Aa} (ha:Bm C U [x]=some args):Ik C.P γ a o w (.part off sh) args:=by
 intro u hu;obtain⟨v,rfl,h1⟩:=GD hr ha;simp only[Az] at hu;split at hu;.rename_i e;cases e;obtain⟨r,c,b⟩:=ja (w:=w) hf h1 hu;exact⟨r,by rw[he];exact EP c,b⟩
 .cases hu
def VX{o:Oper}{t:TypeId}{x:Operand}{f off:Nat}{sh:Option Nat}(hf:IE C.P t f=some (off,sh))(he:execOp a.eval o=(do pure (Next.value (<-Instr.fieldAt t (a.eval x) f))))
  (hr:C4 C γ0 w0 γ Z U h a w) {args:List Aa} (ha:Bm C U [x]=some args):Ik C.P γ a o w (.FN off) args:=by
 intro u hu;obtain⟨v,rfl,h1⟩:=GD hr ha;simp only[Az] at hu;obtain⟨r,c,b⟩:=kF (w:=w) hf h1 hu;exact⟨r,by rw[he];exact EP c,b⟩
def jf{o:Oper}{x:Operand}{i:Nat}(he:execOp a.eval o=(do pure (Next.value (<-Instr.extract (a.eval x) i))))
  (hr:C4 C γ0 w0 γ Z U h a w) {args:List Aa} (ha:Bm C U [x]=some args):Ik C.P γ a o w (.ext i) args:=by
 intro u hu;obtain⟨v,rfl,h1⟩:=GD hr ha;simp only[Az] at hu;split at hu;.rename_i e;cases e;obtain⟨r,c,b⟩:=ĕ (P:=C.P) (w:=w) h1 hu;exact⟨r,by rw[he];exact EP c,b⟩
 .cases hu
def VY{o:Oper}{t:TypeId}{x y:Operand}(ht:C.P.underlying t=some .string)(he:execOp a.eval o=(do pure (Next.value (<-Instr.index t (a.eval x) (a.eval y)))))
  (hr:C4 C γ0 w0 γ Z U h a w) {args:List Aa} (ha:Bm C U [x,y]=some args):Ik C.P γ a o w .SN args:=by
 intro u hu;obtain⟨p,q,rfl,h1,h2⟩:=E1 hr ha;simp only[Az] at hu;split at hu
 .rename_i e;cases e;split at hu
  .rename_i s k i h0;cases hb:s[i.toNat]? with
   |none=>rw[hb] at hu;cases hu
   |some b=>rw[hb] at hu;cases hu;rw[OJ h1,Er h2] at he;exact⟨_,by rw[he];exact EP (Zr ht h0 hb),rfl⟩
  .cases hu
 .cases hu
def VZ{o:Oper}{t e:TypeId}{len n:Nat}{sh:Option Nat}{x y:Operand}(ht:C.P.underlying t=some (.array len e))(hn:BR C.P e=some n)(oV:Fc C.P e=some sh)(he:execOp a.eval o=(do pure (Next.value (<-Instr.index t (a.eval x) (a.eval y)))))
  (hr:C4 C γ0 w0 γ Z U h a w) {args:List Aa} (ha:Bm C U [x,y]=some args):Ik C.P γ a o w (.aB1 len n sh) args:=by
 intro u hu;obtain⟨p,q,rfl,h1,h2⟩:=E1 hr ha;simp only[Az] at hu;split at hu
 .rename_i e;cases e;rename_i cs k i;cases hb:MA i len with
  |none=>rw[hb] at hu;cases hu
  |some j=>rw[hb] at hu;simp only[Ck] at hu;rw[Er h2] at he;obtain⟨r,c,b⟩:=Zq (w:=w) (k:=k) ht hn oV h1 hb hu;exact⟨r,by rw[he];exact EP c,b⟩
 .cases hu
def Xo{o:Oper}{t e:TypeId}{n:Nat}{x y:Operand}(ht:C.P.underlying t=some (.slice e))(hn:BR C.P e=some n)(he:execOp a.eval o=(do pure (Next.value (<-Instr.indexAt t (a.eval x) (a.eval y)))))
  (hr:C4 C γ0 w0 γ Z U h a w) {args:List Aa} (ha:Bm C U [x,y]=some args):Ik C.P γ a o w (.F0 n) args:=by
 intro u hu;obtain⟨p,q,rfl,h1,h2⟩:=E1 hr ha;simp only[Az] at hu;split at hu;.rename_i e;cases e;rename_i k i;rw[Er h2] at he;obtain⟨r,c,b⟩:=pM (w:=w) (k:=k) ht hn h1 hu;exact⟨r,by rw[he];exact EP c,b⟩
 .cases hu
def Zu{o:Oper}{t e:TypeId}{len n:Nat}{x y:Operand}(ht:C.P.underlying t=some (.array len e))(hn:BR C.P e=some n)(he:execOp a.eval o=(do pure (Next.value (<-Instr.indexAt t (a.eval x) (a.eval y)))))
  (hr:C4 C γ0 w0 γ Z U h a w) {args:List Aa} (ha:Bm C U [x,y]=some args):Ik C.P γ a o w (.Vc len n) args:=by
 intro u hu;obtain⟨p,q,rfl,h1,h2⟩:=E1 hr ha;simp only[Az] at hu;split at hu
 .rename_i e;cases e;rename_i k i;cases hb:MA i len with
  |none=>rw[hb] at hu;cases hu
  |some j=>rw[hb] at hu;simp only[Ck] at hu;rw[Er h2] at he;obtain⟨r,c,b⟩:=jb (w:=w) (k:=k) ht hn h1 hb hu;exact⟨r,by rw[he];exact EP c,b⟩
 .cases hu
def Vh{o:Oper}{t:TypeId}{x:Operand}{lo hi:Option Operand}{isStr:Bool}{size:Nat}(ht:if isStr=true then C.P.underlying t=some .string else∃e,C.P.underlying t=some (.slice e)/\BR C.P e=some size)
  (he:execOp a.eval o=(do pure (Next.value (<-Instr.sliceAt t (a.eval x) (lo.map a.eval) (hi.map a.eval) none))))
  (hr:C4 C γ0 w0 γ Z U h a w) {args:List Aa} (ha:Bm C U (x::(lo.toList++hi.toList))=some args):Ik C.P γ a o w (.PQ size isStr lo.isSome hi.isSome) args:=by
 intro u hu;have h1:=DQ hr ha;cases args with
 |nil=>cases h1
 |cons s as=>obtain⟨_,_,e,h2,h3⟩:=h1.MF;cases e;simp only[Az] at hu;obtain⟨r,c,b⟩:=Ė (P:=C.P) (w:=w) (lo:=lo.map a.eval) (hi:=hi.map a.eval) ht h2 (by cases lo<;>cases hi<;>simpa using h3) (by simpa using hu);exact⟨r,by rw[he];exact EP c,b⟩
def kI{o:Oper}{t:TypeId}{parts:Array (Nat×Operand)}{z:Aa}{ps:List (Nat×Nat)}(hz:GY C.P t=some z)(hp:Kh C.P t parts.toList=some ps)(hb:Wo C.P t=true)
  (he:execOp a.eval o=(do pure (Next.value (<-Instr.build t (parts.map λ(i,x)=>(i,a.eval x))))))
  (hr:C4 C γ0 w0 γ Z U h a w) {args:List Aa} (ha:Bm C U (parts.toList.map (·.2))=some args):Ik C.P γ a o w (.CT z.cells ps) args:=by
 intro u hu;obtain⟨r,c,b⟩:=jc (w:=w) hz hp hb (DQ hr ha) hu;exact⟨r,by rw[he];exact EP c,b⟩
def dF{o:Oper}{x:Operand}(ho:o.op= .nilCheck x)(hr:C4 C γ0 w0 γ Z U h a w){args:List Aa}(ha:Bm C U [x]=some args):Ik C.P γ a o w .My args:=by
 intro u hu;obtain⟨v,rfl,h1⟩:=GD hr ha;simp only[Az,jY] at hu;split at hu;.rename_i p;cases hu;obtain⟨i,k⟩:=p;obtain⟨b,hb,c⟩:=h1;exact⟨_,by simp only[execOp,ho,c];rfl,b,hb,rfl⟩
 .cases hu;obtain⟨b,k,c,hm⟩:=h1;exact⟨_,by simp only[execOp,ho,c];rfl,b,k,rfl,hm⟩
 .cases hu;obtain⟨fs,cs,c,p,q⟩:=h1;exact⟨_,by simp only[execOp,ho,c];rfl,fs,cs,rfl,p,q⟩
 .cases hu
def NL:∀{xs:List Operand} {us:List Aa},Bm C U xs=some us->us.length=xs.length
 |[],us,h=>by cases h;rfl
 |x::xs,us,h=>by
  unfold Bm at h;split at h;.rename_i u DB h1 h2;cases h;simp[NL h2]
  .cases h
def OM{P:Program}{o:Oper}{c:Call}{b:Builtin}{s:Sem Value}(ho:o.op= .call c)(hc:c.callee= .builtin b)(hs:builtin b c.argTypes o.type (c.args.map λ| .const _=>true|_=>false) (c.args.map a.eval)=(do pure (Next.value (<-s)))){v:Value}
  (d:s.run P w= .ok v w):(execOp a.eval o).run P w= .ok (.value v) w:=by
 have:execOp a.eval o=(do pure (Next.value (<-s))):=by rw[<-hs];simp only[execOp,ho,resolve,hc];rfl
 rw[this];exact EP d
def aI{o:Oper}{c:Call}{t:TypeId}{isStr:Bool}(ho:o.op= .call c)(hc:c.callee= .builtin .len)(h0:c.argTypes[0]?=some t)(ht:if isStr=true then C.P.underlying t=some .string else∃e,C.P.underlying t=some (.slice e))
  (hr:C4 C γ0 w0 γ Z U h a w) {args:List Aa} (ha:Bm C U c.args.toList=some args):Ik C.P γ a o w (.len isStr) args:=by
 intro u hu;simp only[Az] at hu;split at hu
 .rename_i s;have hl:=NL ha;obtain⟨x,hx⟩:∃x,c.args.toList=[x]:=aGi.1 hl.symm;rw[hx] at ha;obtain⟨_,e,h1⟩:=GD hr ha;cases e;obtain⟨r,d,b⟩:=Ĕ (P:=C.P) (w:=w) (ty:=o.type) ht h0 h1 hu;have e:c.args.map a.eval=#[a.eval x]:=by apply HJ;simp[hx]
  exact⟨r,OM ho hc (s:=Builtin.len_ c.argTypes o.type #[a.eval x]) (by rw[e];rfl) d,b⟩
 .cases hu
def S4{o:Oper}{c:Call}{isMax:Bool}(ho:o.op= .call c)(hc:c.callee= .builtin (if isMax then .max else .min))(hr:C4 C γ0 w0 γ Z U h a w){args:List Aa}(ha:Bm C U c.args.toList=some args):Ik C.P γ a o w (.L0 isMax) args:=by
 intro u hu;simp only[Az] at hu;split at hu
 .rename_i k p l q;split at hu
  .rename_i hk;subst hk;cases hu;have hl:=NL ha;obtain⟨x,y,hx⟩:∃x y,c.args.toList=[x,y]:=by
    cases hq:c.args.toList with
    |nil=>rw[hq] at hl;simp at hl
    |cons x xs=>cases xs with
     |nil=>rw[hq] at hl;simp at hl
     |cons y ys=>cases ys with
      |nil=>exact⟨x,y,rfl⟩
      |cons _ _=>rw[hq] at hl;simp at hl
   rw[hx] at ha;obtain⟨_,_,e,h1,h2⟩:=E1 hr ha;cases e;have e:c.args.map a.eval=#[.int k p,.int k q]:=by apply HJ;simp[hx,Er h1,Er h2]
   cases isMax with
   |true=>exact⟨_,OM ho hc (s:=Builtin.max_ c.argTypes o.type #[.int k p,.int k q]) (by rw[e];rfl) (by simp[Builtin.max_,Builtin.max2]),rfl⟩
   |false=>exact⟨_,OM ho hc (s:=Builtin.min_ c.argTypes o.type #[.int k p,.int k q]) (by rw[e];rfl) (by simp[Builtin.min_,Builtin.min2]),rfl⟩
  .cases hu
 .cases hu
end
end Go.Am
end
section
namespace Go.Am
open Go
section
variable{C:FT}{γ0 γ:Gh}{w0 w:World}{Z:Nat->Nat}{U:BL}{h:Ae}{a:Act}{fid:FuncId}{ops:List Oper}
def Np{x:Operand}{d:Nat}{take:Bool}{r:EF}(h:KR C U x d take=some r):∃ws,r= .pure ws:=by
 unfold KR at h;split at h;.cases h;exact⟨_,rfl⟩
 .cases h;exact⟨_,rfl⟩
 .split at h;.cases h;exact⟨_,rfl⟩
  .cases hc:IF _ with
   |none=>rw[hc] at h;cases h
   |some s=>rw[hc] at h;cases h;exact⟨_,rfl⟩
 .cases hc:IF _ with
  |none=>rw[hc] at h;cases h
  |some s=>rw[hc] at h;cases h;exact⟨_,rfl⟩
 .cases h
def aJ{t:TypeId}{v:Aa}{d:Nat}{p:Zf}{args:List Aa}{dst:Option Nat}{BN:Bool}{b:Option (Nat×Aa)}:Vd C fid t v d≠some (.op p args dst BN b):=by
 unfold Vd;intro h;split at h;.cases h
 .split at h;.cases h
  .split at h<;>cases h
def pR{t:TypeId}{x:Operand}{d:Nat}{take:Bool}{p:Zf}{args:List Aa}{dst:Option Nat}{BN:Bool}{b:Option (Nat×Aa)}:L1 C U t x d take≠some (.op p args dst BN b):=by
 unfold L1;intro h;split at h;.cases h
 .split at h;.simp only at h;split at h<;>cases h
  .cases h
 .split at h<;>cases h
 .cases h
def kJ{t:TypeId}{x y:Operand}{p:Zf}{args:List Aa}{dst:Option Nat}{BN:Bool}{b:Option (Nat×Aa)}:JA C U t x y≠some (.op p args dst BN b):=by
 unfold JA;intro h;split at h;.cases h
 .split at h<;>cases h
 .cases h
def jg{o:Oper}{p:Zf}{args:List Aa}{dst:Option Nat}{BN:Bool}{j:Option (Nat×Aa)}(hc:Ga C fid ops U o=some (.op p args dst BN j))(Jl:p.still=true)(hr:C4 C γ0 w0 γ Z U h a w):
  Ik C.P γ a o w p args/\dst=o.dst/\BN=false/\j=none:=by
 unfold Ga at hc
 split at hc
 .split at hc
  .obtain⟨ws,e⟩:=Np hc;cases e
  .cases hc
 .split at hc
  .obtain⟨ws,e⟩:=Np hc;cases e
  .cases hc
 .rename_i c x y ho
  split at hc
  .obtain⟨ws,e⟩:=Np hc;cases e
  .obtain⟨ws,e⟩:=Np hc;cases e
  .obtain⟨as,g,b⟩:=DR hc
   cases b
   exact⟨pP ho hr g,rfl,rfl,rfl⟩
 .split at hc
  .split at hc
   .split at hc<;>cases hc
   .exact absurd hc aJ
  .cases hc
 .split at hc
  .exact absurd hc aJ
  .cases hc
 .rename_i t parts ho
  split at hc
  .rename_i z ps hz hp
   split at hc
   .rename_i hb
    obtain⟨as,g,b⟩:=DR hc
    cases b
    exact⟨kI hz hp hb (by simp[execOp,ho]) hr g,rfl,rfl,rfl⟩
   .cases hc
  .cases hc
 .split at hc
  .split at hc
   .split at hc
    .split at hc
     .cases hc;cases Jl
     .cases hq:Bm C U _ with
      |none=>rw[hq] at hc;cases hc
      |some q=>rw[hq] at hc;cases hc;cases Jl
    .cases hc
   .cases hc
  .cases hc
 .split at hc
  .exact absurd hc pR
  .cases hc
 .split at hc
  .exact absurd hc kJ
  .cases hc
 .rename_i x ho
  split at hc
  .cases hc
  .cases hc
  .obtain⟨as,g,b⟩:=DR hc
   cases b
   exact⟨dF ho hr g,rfl,rfl,rfl⟩
 .rename_i op t x y k ho
  split at hc
  .rename_i q hq
   obtain⟨as,g,b⟩:=DR hc
   cases b
   exact⟨jd hq (by simp[execOp,ho]) hr g,rfl,rfl,rfl⟩
  .cases hc
 .rename_i op t x ho
  obtain⟨as,g,b⟩:=DR hc
  cases b
  exact⟨tz (by simp[execOp,ho]) hr g,rfl,rfl,rfl⟩
 .rename_i src aLq x ho
  split at hc
  .cases hq:ER C U x with
   |none=>rw[hq] at hc;cases hc
   |some q=>rw[hq] at hc;cases hc
  .split at hc
   .cases hq:ER C U x with
    |none=>rw[hq] at hc;cases hc
    |some q=>rw[hq] at hc;cases hc
   .obtain⟨as,g,b⟩:=DR hc
    cases b;cases Jl
  .rename_i q SJ jP hq
   obtain⟨as,g,b⟩:=DR hc
   cases b
   refine⟨?_,rfl,rfl,rfl⟩
   unfold Xb at hq
   split at hq
   .rename_i hs hd
    cases hq
    exact pQ hs hd (by simp[execOp,ho]) hr g
   .rename_i hs hd
    cases hq
    exact je hs hd (by simp[execOp,ho]) hr g
   .cases hq
   .split at hq
    .cases hq;cases Jl
    .cases hq
   .split at hq
    .cases hq;cases Jl
    .cases hq
   .cases hq
  .cases hc
 .split at hc
  .cases hc
  .cases hc
 .cases hc
 .split at hc
  .split at hc<;>cases hc
  .cases hc
 .split at hc
  .split at hc<;>cases hc
  .cases hc
 .split at hc
  .split at hc<;>cases hc
  .cases hc
 .split at hc
  .split at hc<;>cases hc
  .cases hc
 .split at hc
  .split at hc
   .exact absurd hc Ly
   .cases hc
  .cases hc
 .split at hc
  .cases hc
  .exact absurd hc Ly
  .cases hc
 .split at hc
  .split at hc<;>first|exact absurd hc Ly|cases hc
  .cases hc
 .split at hc
  .exact absurd hc Ly
  .cases hc
 .rename_i t x lo hi ho
  split at hc
  .rename_i ht
   obtain⟨as,g,b⟩:=DR hc
   cases b
   exact⟨Vh (isStr:=true) ht (by simp[execOp,ho]) hr g,rfl,rfl,rfl⟩
  .rename_i e ht
   split at hc
   .rename_i n hn
    split at hc
    .exact absurd hc Ly
    .obtain⟨as,g,b⟩:=DR hc
     cases b
     exact⟨Vh (isStr:=false) ⟨e,ht,hn⟩ (by simp[execOp,ho]) hr g,rfl,rfl,rfl⟩
   .cases hc
  .cases hc
 .rename_i t x f ho
  split at hc
  .rename_i off sh d hf hd
   split at hc
   .cases hc
   .cases hc
   .obtain⟨as,g,b⟩:=DR hc
    cases b
    exact⟨VX hf (by simp[execOp,ho]) hr g,hd.symm,rfl,rfl⟩
  .cases hc
 .rename_i t x f ho
  split at hc
  .rename_i off sh hf
   obtain⟨as,g,b⟩:=DR hc
   cases b
   exact⟨kG hf (by simp[execOp,ho]) hr g,rfl,rfl,rfl⟩
  .cases hc
 .rename_i t x i ho
  split at hc
  .rename_i e ht
   split at hc
   .rename_i n hn
    obtain⟨as,g,b⟩:=DR hc
    cases b
    exact⟨Xo ht hn (by simp[execOp,ho]) hr g,rfl,rfl,rfl⟩
   .cases hc
  .rename_i len e ht
   split at hc
   .rename_i n hn
    split at hc
    .cases hc
    .obtain⟨as,g,b⟩:=DR hc
     cases b
     exact⟨Zu ht hn (by simp[execOp,ho]) hr g,rfl,rfl,rfl⟩
   .cases hc
  .cases hc
 .rename_i t x i ho
  split at hc
  .rename_i ht
   obtain⟨as,g,b⟩:=DR hc
   cases b
   exact⟨VY ht (by simp[execOp,ho]) hr g,rfl,rfl,rfl⟩
  .rename_i len e ht
   split at hc
   .rename_i n sh hn oV
    obtain⟨as,g,b⟩:=DR hc
    cases b
    exact⟨VZ ht hn oV (by simp[execOp,ho]) hr g,rfl,rfl,rfl⟩
   .cases hc
  .cases hc
 .rename_i x i ho
  obtain⟨as,g,b⟩:=DR hc
  cases b
  exact⟨jf (by simp[execOp,ho]) hr g,rfl,rfl,rfl⟩
 .rename_i c ho
  unfold RV at hc
  split at hc
  .rename_i hcl
   split at hc
   .rename_i t h0
    split at hc
    .rename_i ht
     obtain⟨as,g,b⟩:=DR hc
     cases b
     exact⟨aI (isStr:=true) ho hcl h0 ht hr g,rfl,rfl,rfl⟩
    .rename_i e ht
     obtain⟨as,g,b⟩:=DR hc
     cases b
     exact⟨aI (isStr:=false) ho hcl h0 ⟨e,ht⟩ hr g,rfl,rfl,rfl⟩
    .cases hc
   .cases hc
  .split at hc
   .split at hc
    all_goals first
     |(cases hc;done)
     | (split at hc
        . split at hc
          . split at hc
            . split at hc
              . split at hc
                . cases hc
                . split at hc
                  . cases hc
                  . cases hc; cases Jl
              . split at hc <;> cases hc
            . cases hc
          . cases hc
        . cases hc)
   .cases hc
  .split at hc
   .split at hc
    all_goals first
     |(cases hc;done)
     | (split at hc
        . exact absurd hc Ly
        . cases hc)
   .cases hc
  .split at hc
   .split at hc
    .split at hc
     .exact absurd hc Ly
     .cases hc
    .cases hc
   .cases hc
  .rename_i hcl
   split at hc
   .obtain⟨as,g,b⟩:=DR hc
    cases b
    exact⟨S4 (isMax:=true) ho hcl hr g,rfl,rfl,rfl⟩
   .cases hc
  .rename_i hcl
   split at hc
   .obtain⟨as,g,b⟩:=DR hc
    cases b
    exact⟨S4 (isMax:=false) ho hcl hr g,rfl,rfl,rfl⟩
   .cases hc
  .split at hc
   .split at hc
    .split at hc
     .exact absurd hc Ly
     .cases hc
    .cases hc
   split at hc
   .cases hq:Bm C U c.args.toList with
    |none=>rw[hq] at hc;cases hc
    |some q=>
     rw[hq] at hc
     simp only[BF,Bx] at hc
     split at hc<;>cases hc
   .cases hc
  .split at hc<;>cases hc
  .cases hc
 .cases hc
end
end Go.Am
end
