/- Lemmas -/
import Derived.Test.YtjboelmdplaenaaGreatDoorQ2
import Derived.Laws.Slices
set_option linter.unusedVariables false
set_option linter.unusedSimpArgs false
section
namespace Go.Am
open Go
section
variable {P:Program} {γ:Gh} {w:World}
theorem rel_bool {a:Bool} {v:Value} (h:VRel γ (.bool a) v):v= .bool a:=h
theorem rel_int {k:IntKind} {a:Int} {v:Value} (h:VRel γ (.int k a) v):v= .int k a:=h
theorem rel_str {a:Bytes} {v:Value} (h:VRel γ (.str a) v):v= .string ⟨⟨a⟩⟩:=h
theorem VRelV.nil_inv {us:List Value} (h:VRelV γ [] us):us=[]:=h
theorem VRelV.cons_inv {a:AVal} {l:List AVal} {us:List Value} (h:VRelV γ (a::l) us):∃u us',us=u::us'∧VRel γ a u∧VRelV γ l us':=h
theorem VRelV.one {a:AVal} {us:List Value} (h:VRelV γ [a] us):∃u,us=[u]∧VRel γ a u:=by obtain⟨u,us',rfl,h1,h2⟩:=h;rw[h2.nil_inv];exact⟨u,rfl,h1⟩
theorem VRelV.two {a b:AVal} {us:List Value} (h:VRelV γ [a,b] us):∃u v,us=[u,v]∧VRel γ a u∧VRel γ b v:=by
 obtain⟨u,us',rfl,h1,h2⟩:=h;obtain⟨v,rfl,h3⟩:=h2.one
 grind
theorem VRelV.three {a b c:AVal} {us:List Value} (h:VRelV γ [a,b,c] us):∃u v x,us=[u,v,x]∧VRel γ a u∧VRel γ b v∧VRel γ c x:=by
 obtain⟨u,us',rfl,h1,h2⟩:=h;obtain⟨v,x,rfl,h3,h4⟩:=h2.two
 grind
def Value.plainEq:Value→Bool
 | .bool _| .pointer _| .slice _ _ _| .func _ _ _| .nilFunc| .map _=>true
 |_=>false
theorem run_eq_of {op:BinOp} {neg:Bool} (hop:(op= .eql∧neg=false)∨(op= .neq∧neg=true)) (t:TypeId) (ox oy:Operand) {x y:Value} (hx:Value.plainEq x=true) (hy:Value.plainEq y=true) {e:Bool}
  (he:(Op.equal t x y).run P w= .ok e w):(do eqGuard op t ox oy x y;binOp op t x y:Sem Value).run P w= .ok (.bool (e != neg)) w:=by
 have hg:eqGuard op t ox oy x y=pure ():=by rcases hop with⟨rfl,_⟩|⟨rfl,_⟩<;>cases x<;>simp[Value.plainEq] at hx<;>rfl
 rw[hg];rcases hop with⟨rfl,rfl⟩|⟨rfl,rfl⟩
 ·have hb:binOp .eql t x y=(do pure (.bool (←Op.equal t x y))):=by cases x<;>simp[Value.plainEq] at hx<;>cases y<;>simp[Value.plainEq] at hy<;>rfl
  simp[hb,he]
 ·have hb:binOp .neq t x y=(do pure (.bool (!(←Op.equal t x y)))):=by cases x<;>simp[Value.plainEq] at hx<;>cases y<;>simp[Value.plainEq] at hy<;>rfl
  simp[hb,he]
theorem run_pop_beq {op:BinOp} {neg:Bool} (hop:(op= .eql∧neg=false)∨(op= .neq∧neg=true)) (t:TypeId) (ox oy:Operand) (ht:P.underlying t=some .bool) (a b:Bool):
  (do eqGuard op t ox oy (.bool a) (.bool b);binOp op t (.bool a) (.bool b):Sem Value).run P w= .ok (.bool ((a==b) != neg)) w:=
 run_eq_of hop t ox oy rfl rfl (run_equalIn_bool' w 9999 t a b ht)
theorem run_equalIn_ptr {d:Nat} {t e:TypeId} (ht:P.underlying t=some (.pointer e)) (hz:∃n,tySize P e=some (n+1)) {a b:AVal} {x y:Value} (hx:VRel γ a x) (hy:VRel γ b y) {r:Bool} (h:ptrEq a b=some r):
  (Op.equalIn (d+1) t x y).run P w= .ok r w∧Value.plainEq x=true∧Value.plainEq y=true:=by
 obtain⟨n,hn⟩:=hz;unfold ptrEq at h;split at h
 ·rename_i q
  cases h
  rw[show x= .pointer none from hx];have:∃p,y= .pointer p∧p.isNone=q.isNone:=by
   cases q with
   |none=>exact⟨none,hy,rfl⟩
   |some p=>obtain⟨i,o⟩:=p;obtain⟨b,_,rfl⟩:=hy;exact⟨_,rfl,rfl⟩
  obtain⟨p,rfl,hp⟩:=this;exact⟨by simp[Op.equalIn,run_underlying ht,hp],rfl,rfl⟩
 ·rename_i p
  cases h
  obtain⟨i,o⟩:=p;obtain⟨b,_,rfl⟩:=hx;rw[show y= .pointer none from hy];exact⟨by simp[Op.equalIn,run_underlying ht],rfl,rfl⟩
 ·rename_i p q;split at h
  ·rename_i he
   cases h
   subst he;obtain⟨i,o⟩:=p;obtain⟨b,hb,rfl⟩:=hx;obtain⟨b',hb',rfl⟩:=hy;rw[hb] at hb';cases hb';exact⟨by simp[Op.equalIn,run_underlying ht,run_sizeOf hn,sameAddr],rfl,rfl⟩
  ·cases h
 ·cases h
  rw[show x= .pointer none from hx];obtain⟨b,o,rfl,_⟩:=hy;exact⟨by simp[Op.equalIn,run_underlying ht],rfl,rfl⟩
 ·cases h
  rw[show y= .pointer none from hy];obtain⟨b,o,rfl,_⟩:=hx;exact⟨by simp[Op.equalIn,run_underlying ht],rfl,rfl⟩
 ·cases h
theorem run_equalIn_slice {d:Nat} {t e:TypeId} (ht:P.underlying t=some (.slice e)) {p q:Option Addr} {n c m k:Nat} (h:p=none∨q=none):
  (Op.equalIn (d+1) t (.slice p n c) (.slice q m k)).run P w= .ok (p.isNone&&q.isNone) w:=by
 cases p<;>cases q<;>simp at h<;>simp[Op.equalIn,run_underlying ht]
theorem run_equalIn_fn {d:Nat} {t:TypeId} {a b:Array TypeId} {c:Bool} (ht:P.underlying t=some (.func a b c)) {f:Fn} {x y:Array Value}:
  (Op.equalIn (d+1) t .nilFunc .nilFunc).run P w= .ok true w∧(Op.equalIn (d+1) t .nilFunc (.func f x y)).run P w= .ok false w∧(Op.equalIn (d+1) t (.func f x y) .nilFunc).run P w= .ok false w:=by
 refine⟨?_,?_,?_⟩<;>simp[Op.equalIn,run_underlying ht]
theorem run_equalIn_map {d:Nat} {t k e:TypeId} (ht:P.underlying t=some (.map k e)) {p q:Option Nat} (h:p=none∨q=none):
  (Op.equalIn (d+1) t (.map p) (.map q)).run P w= .ok (p.isNone&&q.isNone) w:=by
 cases p<;>cases q<;>simp at h<;>simp[Op.equalIn,run_underlying ht]
theorem run_equalIn_nil {d:Nat} {t:TypeId} {k:NK} (ht:match k with| .sl=>∃e,P.underlying t=some (.slice e)| .fn=>∃a b c,P.underlying t=some (.func a b c)| .mp=>∃a b,P.underlying t=some (.map a b))
  {a b:AVal} {x y:Value} (hx:VRel γ a x) (hy:VRel γ b y) {r:Bool} (h:nilEq k a b=some r):
  (Op.equalIn (d+1) t x y).run P w= .ok r w∧Value.plainEq x=true∧Value.plainEq y=true:=by
 unfold nilEq at h;split at h
 case h_1=>obtain⟨e,ht⟩:=ht;cases h;rw[show x= .slice none 0 0 from hx,show y= .slice none 0 0 from hy];exact⟨run_equalIn_slice ht (.inl rfl),rfl,rfl⟩
 case h_2=>obtain⟨e,ht⟩:=ht;cases h;rw[show x= .slice none 0 0 from hx];obtain⟨_,_,rfl,_⟩:=hy;exact⟨run_equalIn_slice ht (.inl rfl),rfl,rfl⟩
 case h_3=>obtain⟨e,ht⟩:=ht;cases h;rw[show y= .slice none 0 0 from hy];obtain⟨_,_,rfl,_⟩:=hx;exact⟨run_equalIn_slice ht (.inr rfl),rfl,rfl⟩
 case h_4=>obtain⟨e,ht⟩:=ht;cases h;rw[show x= .slice none 0 0 from hx];obtain⟨_,rfl⟩:=hy;exact⟨run_equalIn_slice ht (.inl rfl),rfl,rfl⟩
 case h_5=>obtain⟨e,ht⟩:=ht;cases h;rw[show y= .slice none 0 0 from hy];obtain⟨_,rfl⟩:=hx;exact⟨run_equalIn_slice ht (.inr rfl),rfl,rfl⟩
 case h_6=>obtain⟨e,ht⟩:=ht;cases h;rw[show x= .slice none 0 0 from hx];obtain⟨_,_,_,rfl,_⟩:=hy;exact⟨run_equalIn_slice ht (.inl rfl),rfl,rfl⟩
 case h_7=>obtain⟨e,ht⟩:=ht;cases h;rw[show y= .slice none 0 0 from hy];obtain⟨_,_,_,rfl,_⟩:=hx;exact⟨run_equalIn_slice ht (.inr rfl),rfl,rfl⟩
 case h_8=>obtain⟨_,_,_,ht⟩:=ht;cases h;rw[show x= .nilFunc from hx,show y= .nilFunc from hy];exact⟨(run_equalIn_fn ht (f:= .func 0) (x:=#[]) (y:=#[])).1,rfl,rfl⟩
 case h_9=>obtain⟨_,_,_,ht⟩:=ht;cases h;rw[show x= .nilFunc from hx];obtain⟨_,_,rfl,_⟩:=hy;exact⟨(run_equalIn_fn ht).2.1,rfl,rfl⟩
 case h_10=>obtain⟨_,_,_,ht⟩:=ht;cases h;rw[show y= .nilFunc from hy];obtain⟨_,_,rfl,_⟩:=hx;exact⟨(run_equalIn_fn ht).2.2,rfl,rfl⟩
 case h_11=>
  rename_i q;obtain⟨_,_,ht⟩:=ht;cases h;rw[show x= .map none from hx]
  cases q with
  |none=>rw[show y= .map none from hy];exact⟨run_equalIn_map ht (.inl rfl),rfl,rfl⟩
  |some id=>obtain⟨b,_,rfl⟩:=hy;exact⟨run_equalIn_map ht (.inl rfl),rfl,rfl⟩
 case h_12=>obtain⟨_,_,ht⟩:=ht;cases h;rw[show y= .map none from hy];obtain⟨b,_,rfl⟩:=hx;exact⟨run_equalIn_map ht (.inr rfl),rfl,rfl⟩
 ·cases h
theorem peval_int {op:BinOp} {args:List AVal} {u:AVal} (h:peval (.int op) args=some u):∃k a l b,args=[.int k a,.int l b]∧intOp op k a l b=some u:=by
 simp only[peval] at h
 grind
theorem peval_str {op:BinOp} {args:List AVal} {u:AVal} (h:peval (.str op) args=some u):∃a b,args=[.str a,.str b]∧strOp op a b=some u:=by
 simp only[peval] at h
 grind
theorem run_binKind {op:BinOp} {t:TypeId} {p:POp} (hp:binKind P op t=some p) (ox oy:Operand) {args:List AVal} {x y:Value} (ha:VRelV γ args [x,y]) {u:AVal} (h:peval p args=some u):
  ∃v,(do eqGuard op t ox oy x y;binOp op t x y:Sem Value).run P w= .ok v w∧VRel γ u v:=by
 unfold binKind at hp;split at hp
 ·cases hp
  obtain⟨k,a,l,b,rfl,h⟩:=peval_int h;obtain⟨_,_,e,hx,hy⟩:=ha.two
  cases e
  rw[rel_int hx,rel_int hy];exact run_pop_int t ox oy h
 ·cases hp
  obtain⟨a,b,rfl,h⟩:=peval_str h;obtain⟨_,_,e,hx,hy⟩:=ha.two
  cases e
  rw[rel_str hx,rel_str hy];exact run_pop_str t ox oy h
 ·rename_i d h1 h2 hu;obtain⟨neg,hop,hp'⟩:∃neg,((op= .eql∧neg=false)∨(op= .neq∧neg=true))∧eqKind P t neg d=some p:=by cases op<;>first|cases hp;done|exact⟨false,.inl ⟨rfl,rfl⟩,hp⟩|exact⟨true,.inr ⟨rfl,rfl⟩,hp⟩
  clear h1 h2 hp;have hp:=hp';clear hp';unfold eqKind at hp;split at hp
  ·cases hp
   simp only[peval] at h;split at h
   ·obtain⟨_,_,e,hx,hy⟩:=ha.two
    cases e;cases h
    rw[rel_bool hx,rel_bool hy];exact⟨_,run_pop_beq hop t ox oy hu _ _,rfl⟩
   ·cases h
  ·split at hp
   ·rename_i hg
    cases hk:flatK P 20 t with
    |none=>rw[hk] at hp;cases hp
    |some ks=>
     rw[hk] at hp;cases hp;simp only[peval] at h;split at h
     ·obtain⟨_,_,e,hx,hy⟩:=ha.two
      cases e
      exact run_pop_geq hop hg hk ⟨_,hu⟩ hx hy h
     ·cases h
   ·cases hp
  ·split at hp
   ·cases hp
   ·rename_i e hz
    cases hp
    simp only[peval] at h;split at h
    ·rename_i a b;obtain⟨_,_,e,hx,hy⟩:=ha.two
     cases e
     cases hq:ptrEq a b with
     |none=>rw[hq] at h;cases h
     |some r=>rw[hq] at h;cases h;obtain⟨p1,p2,p3⟩:=run_equalIn_ptr (w:=w) (d:=9999) hu (by cases hz':tySize P e with|none=>rw[hz'] at hz;exact absurd rfl hz|some n=>cases n with|zero=>rw[hz'] at hz;exact absurd rfl hz|succ n=>exact⟨n,rfl⟩) hx hy hq;exact⟨_,run_eq_of hop t ox oy p2 p3 p1,rfl⟩
    ·cases h
  all_goals first
   |cases hp;done
   | (cases hp
      simp only [peval] at h
      split at h
      · rename_i a b
        obtain ⟨_, _, e, hx, hy⟩ := ha.two
        cases e
        cases hq : nilEq _ a b with
        | none => rw [hq] at h; cases h
        | some r =>
          rw [hq] at h; cases h
          obtain ⟨p1, p2, p3⟩ := run_equalIn_nil (w := w) (P := P) (t := t) (d := 9999) (by first | exact ⟨_, hu⟩ | exact ⟨_, _, hu⟩ | exact ⟨_, _, _, hu⟩) hx hy hq
          exact ⟨_, run_eq_of hop t ox oy p2 p3 p1, rfl⟩
      · cases h)
 ·cases hp
end
end Go.Am
end
section
namespace Go.Am
open Go
section
variable {P:Program} {γ:Gh} {w:World}
theorem run_un {op:UnOp} {a u:AVal} {x:Value} (hx:VRel γ a x) (h:unOf op a=some u):∃v,(Op.unary op x).run P w= .ok v w∧VRel γ u v:=by
 unfold unOf at h;split at h
 ·cases h;rw[rel_bool hx];exact⟨_,rfl,rfl⟩
 ·cases h;rw[rel_int hx];exact⟨_,rfl,rfl⟩
 ·rename_i k n;rw[rel_int hx];unfold xorOf at h
  cases hs:semPure (Op.unary .xor (.int k n)) with
  |none=>rw[hs] at h;cases h
  |some v=>
   rw[hs] at h;have e1:=semPure_eq hs;simp only[Option.bind_some] at h;split at h
   ·cases h;exact⟨_,by rw[e1];rfl,rfl⟩
   ·cases h
 ·cases h
theorem run_conv_int {src dst:TypeId} {k l k':IntKind} {n:Int} (hs:P.underlying src=some (.int l)) (hd:P.underlying dst=some (.int k)):(convert src dst (.int k' n)).run P w= .ok (.int k (k.wrap n)) w:=by simp[convert,run_underlying hs,run_underlying hd,Conv.intToInt]
theorem run_conv_str {src dst:TypeId} {l k':IntKind} {n:Int} (hs:P.underlying src=some (.int l)) (hd:P.underlying dst=some .string):(convert src dst (.int k' n)).run P w= .ok (.string (Utf8.encode n)) w:=by simp[convert,run_underlying hs,run_underlying hd,Conv.intToString]
theorem run_field {t:TypeId} {f off:Nat} {sh:Option Nat} (hf:fieldOff P t f=some (off,sh)) {cs:List AVal} {x:Value} (hx:VRel γ (.agg cs) x) {u:AVal} (h:partOf cs off sh=some u):∃v,(Instr.field t x f).run P w= .ok v w∧VRel γ u v:=by
 unfold fieldOff at hf;split at hf
 ·rename_i fs hu;split at hf
  ·rename_i fd hfd;split at hf
   ·rename_i n sh' h1 h2
    cases hf
    obtain⟨us,rfl,hr,h1c⟩:=hx;obtain⟨v,p,q⟩:=run_part (w:=w) h2 hr h1c h;exact⟨v,by simp[Instr.field,run_underlying hu,hfd,asAgg,p],q⟩
   ·cases hf
  ·cases hf
 ·cases hf
theorem idxOf_some {i:Int} {len j:Nat} (h:idxOf i len=some j):0≤i∧i<len∧i.toNat=j:=by
 unfold idxOf at h
 grind
theorem run_index_arr {t e:TypeId} {len n:Nat} {sh:Option Nat} (ht:P.underlying t=some (.array len e)) (hn:tySize P e=some n) (hsh:tyShape P e=some sh) {cs:List AVal} {x:Value} (hx:VRel γ (.agg cs) x) {k:IntKind} {i:Int} {j:Nat}
  (hi:idxOf i len=some j) {u:AVal} (h:partOf cs (j*n) sh=some u):∃v,(Instr.index t x (.int k i)).run P w= .ok v w∧VRel γ u v:=by
 obtain⟨us,rfl,hr,h1c⟩:=hx;obtain⟨p1,p2,p3⟩:=idxOf_some hi;obtain⟨v,p,q⟩:=run_part (w:=w) hsh hr h1c h;exact⟨v,by simp[Instr.index,asIntOf,run_underlying ht,p1,p2,run_sizeOf hn,p3,p],q⟩
theorem run_index_str {t:TypeId} (ht:P.underlying t=some .string) {s:Bytes} {k:IntKind} {i:Int} {b:UInt8} (h0:0≤i) (h:s[i.toNat]?=some b):
  (Instr.index t (.string ⟨⟨s⟩⟩) (.int k i)).run P w= .ok (.int .u8 b.toNat) w:=by
 obtain⟨hlt,hb⟩:=List.getElem?_eq_some_iff.1 h;have e:(⟨⟨s⟩⟩:ByteArray)[i.toNat]?=some b:=by rw[ByteArray.getElem?_lt' _ _ (show i.toNat<(⟨⟨s⟩⟩:ByteArray).size from hlt),←hb];rfl
 simp[Instr.index,asIntOf,run_underlying ht,h0,e]
theorem off_rel {p u:AVal} {x:Value} {n:Nat} (hx:VRel γ p x) (h:offOf p n=some u):∃a,x= .pointer (some a)∧VRel γ u (.pointer (some (a.add n))):=by
 unfold offOf at h;split at h
 ·rename_i cs
  cases h
  obtain⟨b,o,rfl,hm⟩:=hx;refine⟨_,rfl,b,o+n,?_,hm.drop n⟩;unfold Addr.add;split<;>simp_all
 ·rename_i id o
  cases h
  obtain⟨b,hb,rfl⟩:=hx;refine⟨_,rfl,b,hb,?_⟩;unfold Addr.add;split<;>simp_all
 ·cases h
theorem run_fieldAt {t:TypeId} {f off:Nat} {sh:Option Nat} (hf:fieldOff P t f=some (off,sh)) {p u:AVal} {x:Value} (hx:VRel γ p x) (h:offOf p off=some u):∃v,(Instr.fieldAt t x f).run P w= .ok v w∧VRel γ u v:=by
 obtain⟨a,rfl,hu⟩:=off_rel hx h;refine⟨_,?_,hu⟩;unfold fieldOff at hf;split at hf
 ·rename_i fs hu';split at hf
  ·rename_i fd hfd;split at hf
   ·rename_i n sh' h1 h2
    cases hf
    simp[Instr.fieldAt,run_underlying hu',hfd,Instr.sureAddr,fieldPlace,run_sizeOf h1]
   ·cases hf
  ·cases hf
 ·cases hf
theorem run_elemAt {t e:TypeId} {n:Nat} (ht:P.underlying t=some (.slice e)) (hn:tySize P e=some n) {s u:AVal} {x:Value} (hx:VRel γ s x) {k:IntKind} {i:Int} (h:elemOf n s i=some u):
  ∃v,(Instr.indexAt t x (.int k i)).run P w= .ok v w∧VRel γ u v:=by
 have ht':P.underlying t=some (.slice (P.elem t)):=by simp[Program.elem,ht]
 have he:P.elem t=e:=by simp[Program.elem,ht]
 unfold elemOf at h;split at h
 ·rename_i z rows;split at h
  ·rename_i hz;subst hz;split at h
   ·rename_i h0
    cases hr:rows[i.toNat]? with
    |none=>rw[hr] at h;cases h
    |some row=>
     rw[hr] at h;cases h;obtain⟨ad,cap,rfl,hc,hsp,hm⟩:=hx;obtain⟨hl,hm'⟩:=hm.get hr;have hlt:i<rows.length:=by grind
     have had:=plain_addr hsp hc (by omega);generalize ad.block=b at*;generalize ad.off=o at*;subst had;refine⟨.pointer (some ((⟨b,o,none⟩:Addr).add (i.toNat*z))),by rw[run_indexAt_slice w t _ _ _ _ _ ht',if_pos ⟨h0,hlt⟩,he,run_sizeOf hn];rfl,b,o+i.toNat*z,?_,hm'⟩;unfold Addr.add;split<;>simp_all
   ·cases h
  ·cases h
 ·rename_i id off len z;split at h
  ·rename_i hz;subst hz
   cases hj:idxOf i len with
   |none=>rw[hj] at h;cases h
   |some j=>rw[hj] at h;cases h;obtain⟨p1,p2,p3⟩:=idxOf_some hj;subst p3;obtain⟨b,cap,hb,rfl,hc,hz⟩:=hx;refine⟨.pointer (some ((⟨b,off,none⟩:Addr).add (i.toNat*z))),by rw[run_indexAt_slice w t _ _ _ _ _ ht',if_pos ⟨p1,p2⟩,he,run_sizeOf hn];rfl,b,hb,?_⟩;unfold Addr.add;split<;>simp_all
  ·cases h
 ·cases h
theorem run_arrAt {t e:TypeId} {len n:Nat} (ht:P.underlying t=some (.array len e)) (hn:tySize P e=some n) {p u:AVal} {x:Value} (hx:VRel γ p x) {k:IntKind} {i:Int} {j:Nat} (hj:idxOf i len=some j) (h:offOf p (j*n)=some u):
  ∃v,(Instr.indexAt t x (.int k i)).run P w= .ok v w∧VRel γ u v:=by
 have ht':P.underlying t=some (.array (P.arrayLen t) (P.elem t)):=by simp[Program.elem,Program.arrayLen,ht]
 have he:P.elem t=e:=by grind
 have hl:P.arrayLen t=len:=by grind
 obtain⟨a,rfl,hu⟩:=off_rel hx h;obtain⟨p1,p2,p3⟩:=idxOf_some hj;subst p3;exact⟨_,by rw[run_indexAt_array w t _ _ _ ht',hl,if_pos ⟨p1,p2⟩,he,run_sizeOf hn];rfl,hu⟩
theorem run_len {t ty:TypeId} {isStr:Bool} (ht:if isStr=true then P.underlying t=some .string else∃e,P.underlying t=some (.slice e)) {ts:Array TypeId} (hts:ts[0]?=some t) {s u:AVal} {x:Value} (hx:VRel γ s x) (h:lenOf isStr s=some u):
  ∃v,(Builtin.len_ ts ty #[x]).run P w= .ok v w∧VRel γ u v:=by
 cases isStr with
 |true=>
  replace ht:P.underlying t=some .string:=ht;unfold lenOf at h;split at h<;>first|cases h;done|skip
  simp only[if_true] at h
  cases h
  rw[rel_str hx];refine⟨_,by simp[Builtin.len_,hts,run_underlying ht];rfl,rfl⟩
 |false=>
  obtain⟨e,ht⟩:∃e,P.underlying t=some (.slice e):=ht;unfold lenOf at h;split at h
  ·cases h;obtain⟨ad,cap,rfl,_⟩:=hx;exact⟨_,by simp[Builtin.len_,hts,run_underlying ht];rfl,rfl⟩
  ·cases h;obtain⟨b,cap,_,rfl,_⟩:=hx;exact⟨_,by simp[Builtin.len_,hts,run_underlying ht];rfl,rfl⟩
  ·cases h;rw[show x= .slice none 0 0 from hx];exact⟨_,by simp[Builtin.len_,hts,run_underlying ht];rfl,rfl⟩
  ·cases h;obtain⟨b,rfl⟩:=hx;exact⟨_,by simp[Builtin.len_,hts,run_underlying ht];rfl,rfl⟩
  ·cases h
  ·cases h
theorem run_ext {vs:List AVal} {x:Value} (hx:VRel γ (.tuple vs) x) {i:Nat} {u:AVal} (h:vs[i]?=some u):∃v,(Instr.extract x i).run P w= .ok v w∧VRel γ u v:=by
 obtain⟨us,rfl,hr⟩:=hx;obtain⟨v,hv,q⟩:=hr.get h;exact⟨v,by
  have:us[i]?=some v:=by simpa using hv
  simp[Instr.extract,this],q⟩
end
end Go.Am
end
section
namespace Go.Am
open Go
section
variable {P:Program} {γ:Gh} {w:World}
theorem bound_some {n:Int} {top j:Nat} (h:bound n top=some j):0≤n∧n≤top∧n.toNat=j:=by
 unfold bound at h
 grind
theorem run_bounds {lo hi:Option Value} {as:List AVal} {len cap l h:Nat} {isSlice:Bool} (hb:boundsOf lo.isSome hi.isSome len as=some (l,h)) (hr:VRelV γ as (lo.toList++hi.toList)) (hc:len≤cap):
  (Instr.sliceBounds isSlice len cap lo hi none).run P w= .ok (l,h,cap) w∧l≤h∧h≤len:=by
 cases lo<;>cases hi<;>simp only[Option.isSome,boundsOf] at hb
 ·split at hb
  ·cases hb;exact⟨by simp[Instr.sliceBounds],Nat.zero_le _,Nat.le_refl _⟩
  ·cases hb
 ·rename_i hv;split at hb
  ·rename_i k h'
   cases hh:bound h' len with
   |none=>rw[hh] at hb;cases hb
   |some j=>
    rw[hh] at hb;cases hb;obtain⟨p1,p2,p3⟩:=bound_some hh;obtain⟨_,e,hx⟩:=hr.one
    cases e
    rw[rel_int hx];refine⟨?_,Nat.zero_le _,by omega⟩;have:h'≤(cap:Int):=by omega
    simp[Instr.sliceBounds,run_sliceBound,p1,this,p3]
  ·cases hb
 ·rename_i lv;split at hb
  ·rename_i k l'
   cases hh:bound l' len with
   |none=>rw[hh] at hb;cases hb
   |some j=>
    rw[hh] at hb;cases hb;obtain⟨p1,p2,p3⟩:=bound_some hh;obtain⟨_,e,hx⟩:=hr.one
    cases e
    rw[rel_int hx];refine⟨?_,by omega,Nat.le_refl _⟩;simp[Instr.sliceBounds,run_sliceBound,p1,p2,p3]
  ·cases hb
 ·rename_i lv hv;split at hb
  ·rename_i k l' k' h'
   cases hh:bound h' len with
   |none=>rw[hh] at hb;cases hb
   |some j=>
    rw[hh] at hb;simp only[Option.bind_some] at hb
    cases hh':bound l' j with
    |none=>rw[hh'] at hb;cases hb
    |some i=>
     rw[hh'] at hb;cases hb;obtain⟨p1,p2,p3⟩:=bound_some hh;obtain⟨q1,q2,q3⟩:=bound_some hh';obtain⟨_,_,e,hx,hy⟩:=hr.two
     cases e
     rw[rel_int hx,rel_int hy];refine⟨?_,by omega,by omega⟩;have:h'≤(cap:Int):=by omega
     simp[Instr.sliceBounds,run_sliceBound,p1,this,q1,p3,q3,q2]
  ·cases hb
theorem VRelR.slice {rows:List (List AVal)} {z b o:Nat} (h:VRelR γ rows z b o) (l k:Nat):VRelR γ ((rows.take k).drop l) z b (o+l*z):=by
 refine VRelR.of_get λi r hi=>?_;rw[List.getElem?_drop,List.getElem?_take] at hi;split at hi
 ·obtain⟨p,q⟩:=h.get hi
  grind
 ·cases hi
theorem run_slc {t:TypeId} {isStr:Bool} {size:Nat} (ht:if isStr=true then P.underlying t=some .string else∃e,P.underlying t=some (.slice e)∧tySize P e=some size) {s u:AVal} {x:Value} (hx:VRel γ s x) {as:List AVal} {lo hi:Option Value}
  (hr:VRelV γ as (lo.toList++hi.toList)) (h:sliceOf size isStr lo.isSome hi.isSome s as=some u):
  ∃v,(Instr.sliceAt t x lo hi none).run P w= .ok v w∧VRel γ u v:=by
 unfold sliceOf at h;split at h
 ·split at h
  ·rename_i s his;subst his;replace ht:P.underlying t=some .string:=ht
   cases hb:boundsOf lo.isSome hi.isSome s.length as with
   |none=>rw[hb] at h;cases h
   |some lh=>
    obtain⟨l,k⟩:=lh;rw[hb] at h;cases h;obtain⟨p1,p2,p3⟩:=run_bounds (P:=P) (w:=w) (isSlice:=false) hb hr (Nat.le_refl _);rw[rel_str hx,run_sliceAt_string w t _ _ _ _ ht];refine⟨.string ((⟨⟨s⟩⟩:ByteArray).extract l k),?_,?_⟩
    ·have e:(⟨⟨s⟩⟩:ByteArray).size=s.length:=rfl;simp only[Instr.slice,Sem.run_bind,run_underlying ht,Result.andThen_ok];simp only[e,p1,Option.isSome,Bool.false_eq_true,if_false,Sem.run_bind,Sem.run_pure,Result.andThen_ok]
    ·show Value.string _=Value.string _
     congr 1
     apply ByteArray.ext;apply Array.ext';simp[ByteArray.data_extract,List.extract_eq_take_drop,List.drop_take]
  ·cases h
 ·rename_i z rows;split at h
  ·rename_i hc;obtain⟨rfl,rfl⟩:=hc;obtain⟨e,ht,hn⟩:∃e,P.underlying t=some (.slice e)∧tySize P e=some z:=ht;have ht':P.underlying t=some (.slice (P.elem t)):=by simp[Program.elem,ht]
   have he:P.elem t=e:=by simp[Program.elem,ht]
   obtain⟨ad,cap,rfl,hc,hsp,hm⟩:=hx
   cases hb:boundsOf lo.isSome hi.isSome rows.length as with
   |none=>rw[hb] at h;cases h
   |some lh=>
    obtain⟨l,k⟩:=lh;rw[hb] at h;cases h;obtain⟨p1,p2,p3⟩:=run_bounds (P:=P) (w:=w) (isSlice:=true) hb hr hc;rw[run_sliceAt_slice w t _ _ _ _ ht',run_slice_any w t _ _ _ ht',p1,he,Result.andThen_ok,run_sizeOf hn];refine⟨_,rfl,?_⟩;show VRel γ (.sl z ((rows.take k).drop l)) (.slice (if cap=l then some ad else Option.map (λq:Addr=>q.add (l*z)) (some ad)) (k-l) (cap-l));have hlen:((rows.take k).drop l).length=k-l:=by simp;omega
    by_cases hcl:cap=l
    ·have:(rows.take k).drop l=[]:=List.eq_nil_of_length_eq_zero (by omega);rw[this];simp only[hcl,if_true];exact⟨ad,l-l,by simp;omega,by simp,.inr (by omega),trivial⟩
    ·rw[if_neg hcl];have had:ad=⟨ad.block,ad.off,none⟩:=by
      rcases hsp with hsp|hsp
      ·cases ad;simp_all
      ·omega
     generalize ad.block=b at*;generalize ad.off=o at*;subst had;refine⟨⟨b,o+l*z,none⟩,cap-l,?_,by omega,.inl rfl,hm.slice l k⟩;rw[hlen];simp only[Option.map_some];unfold Addr.add;split<;>simp_all
  ·cases h
 ·rename_i id off n z;split at h
  ·rename_i hc;obtain⟨rfl,rfl⟩:=hc;obtain⟨e,ht,hn⟩:∃e,P.underlying t=some (.slice e)∧tySize P e=some z:=ht;have ht':P.underlying t=some (.slice (P.elem t)):=by simp[Program.elem,ht]
   have he:P.elem t=e:=by simp[Program.elem,ht]
   obtain⟨b,cap,hbk,rfl,hc,hz,hsz⟩:=hx
   cases hb:boundsOf lo.isSome hi.isSome n as with
   |none=>rw[hb] at h;cases h
   |some lh=>
    obtain⟨l,k⟩:=lh;rw[hb] at h;simp only[Option.bind_some] at h;split at h
    ·rename_i hln
     cases h
     obtain⟨p1,p2,p3⟩:=run_bounds (P:=P) (w:=w) (isSlice:=true) hb hr hc;rw[run_sliceAt_slice w t _ _ _ _ ht',run_slice_any w t _ _ _ ht',p1,he,Result.andThen_ok,run_sizeOf hn];refine⟨_,rfl,b,cap-l,hbk,?_,by omega,⟨hz.1,Nat.le_trans (Nat.sub_le _ _) hz.2⟩,?_⟩
     ·show Value.slice (if cap=l then some ⟨b,off,none⟩ else Option.map (λq:Addr=>q.add (l*z)) (some ⟨b,off,none⟩)) (k-l) (cap-l)=_;rw[if_neg (by omega)];simp only[Option.map_some];unfold Addr.add;split<;>simp_all
     ·rw[hsz,Nat.add_assoc,←Nat.add_mul,Nat.add_sub_cancel' (by omega)]
    ·rename_i hln
     cases h
     obtain⟨p1,p2,p3⟩:=run_bounds (P:=P) (w:=w) (isSlice:=true) hb hr hc;rw[run_sliceAt_slice w t _ _ _ _ ht',run_slice_any w t _ _ _ ht',p1,he,Result.andThen_ok,run_sizeOf hn];have hkl:k-l=0:=by omega
     by_cases hcl:cap=l
     ·refine⟨_,rfl,⟨b,off,none⟩,cap-l,?_,by simp,.inl rfl,trivial⟩;show Value.slice (if cap=l then some ⟨b,off,none⟩ else Option.map (λq:Addr=>q.add (l*z)) (some ⟨b,off,none⟩)) (k-l) (cap-l)=_;rw[if_pos hcl,hkl];rfl
     ·refine⟨_,rfl,(Addr.mk b off none).add (l*z),cap-l,?_,by simp,.inl ?_,trivial⟩
      ·show Value.slice (if cap=l then some ⟨b,off,none⟩ else Option.map (λq:Addr=>q.add (l*z)) (some ⟨b,off,none⟩)) (k-l) (cap-l)=_;rw[if_neg hcl,hkl];rfl
      ·unfold Addr.add;split<;>simp_all
  ·cases h
 ·split at h
  ·cases h
  ·rename_i his;have his:isStr=false:=by simpa using his
   subst his;obtain⟨e,ht,hn⟩:∃e,P.underlying t=some (.slice e)∧tySize P e=some size:=ht;have ht':P.underlying t=some (.slice (P.elem t)):=by simp[Program.elem,ht]
   have he:P.elem t=e:=by simp[Program.elem,ht]
   rw[show x= .slice none 0 0 from hx]
   cases hb:boundsOf lo.isSome hi.isSome 0 as with
   |none=>rw[hb] at h;cases h
   |some lh=>
    obtain⟨l,k⟩:=lh;rw[hb] at h;cases h;obtain⟨p1,p2,p3⟩:=run_bounds (P:=P) (w:=w) (isSlice:=true) hb hr (Nat.le_refl _);rw[run_sliceAt_slice w t _ _ _ _ ht',run_slice_any w t _ _ _ ht',p1,he,Result.andThen_ok,run_sizeOf hn];refine⟨_,rfl,?_⟩;have:l=0:=by omega
    subst this;have:k=0:=by omega
    subst this;rfl
 ·cases h
end
end Go.Am
end
section
namespace Go.Am
open Go
section
variable {P:Program} {γ:Gh} {w:World}
theorem cells_rel {a:AVal} {v:Value} (h:VRel γ a v) (hn:0<a.cells.length):VRelV γ a.cells v.cells.toList∧∀u∈v.cells.toList,u.oneCell'=true:=by
 cases a with
 |agg cs=>obtain⟨us,rfl,p,q⟩:=h;exact⟨p,q⟩
 |tuple vs=>exact absurd hn (by simp[AVal.cells])
 |bool b=>rw[show v=_ from h];exact⟨⟨_,[],rfl,rfl,rfl⟩,by simp[Value.cells,Value.oneCell']⟩
 |int k n=>rw[show v=_ from h];exact⟨⟨_,[],rfl,rfl,rfl⟩,by simp[Value.cells,Value.oneCell']⟩
 |str s=>rw[show v=_ from h];exact⟨⟨_,[],rfl,rfl,rfl⟩,by simp[Value.cells,Value.oneCell']⟩
 |slnil=>rw[show v=_ from h];exact⟨⟨_,[],rfl,rfl,rfl⟩,by simp[Value.cells,Value.oneCell']⟩
 |nosl z=>have h0:=h;obtain⟨b,rfl⟩:=h;exact⟨⟨_,[],rfl,h0,rfl⟩,by simp[Value.cells,Value.oneCell']⟩
 |nilFunc=>rw[show v=_ from h];exact⟨⟨_,[],rfl,rfl,rfl⟩,by simp[Value.cells,Value.oneCell']⟩
 |nilIface=>rw[show v=_ from h];exact⟨⟨_,[],rfl,rfl,rfl⟩,by simp[Value.cells,Value.oneCell']⟩
 |ptr p=>
  have h0:=h
  cases p with
  |none=>rw[show v=_ from h];exact⟨⟨_,[],rfl,rfl,rfl⟩,by simp[Value.cells,Value.oneCell']⟩
  |some p=>obtain⟨i,o⟩:=p;obtain⟨b,_,rfl⟩:=h;exact⟨⟨_,[],rfl,h0,rfl⟩,by simp[Value.cells,Value.oneCell']⟩
 |rptr cs=>have h0:=h;obtain⟨b,o,rfl,_⟩:=h;exact⟨⟨_,[],rfl,h0,rfl⟩,by simp[Value.cells,Value.oneCell']⟩
 |sl z rows=>have h0:=h;obtain⟨ad,cap,rfl,_⟩:=h;exact⟨⟨_,[],rfl,h0,rfl⟩,by simp[Value.cells,Value.oneCell']⟩
 |msl id off len z=>have h0:=h;obtain⟨b,cap,_,rfl,_⟩:=h;exact⟨⟨_,[],rfl,h0,rfl⟩,by simp[Value.cells,Value.oneCell']⟩
 |map m=>
  have h0:=h
  cases m with
  |none=>rw[show v=_ from h];exact⟨⟨_,[],rfl,rfl,rfl⟩,by simp[Value.cells,Value.oneCell']⟩
  |some id=>obtain⟨b,_,rfl⟩:=h;exact⟨⟨_,[],rfl,h0,rfl⟩,by simp[Value.cells,Value.oneCell']⟩
 |func fn f c=>have h0:=h;obtain⟨fs,cs,rfl,_⟩:=h;exact⟨⟨_,[],rfl,h0,rfl⟩,by simp[Value.cells,Value.oneCell']⟩
 |iface t a=>have h0:=h;obtain⟨u,rfl,_⟩:=h;exact⟨⟨_,[],rfl,h0,rfl⟩,by simp[Value.cells,Value.oneCell']⟩
theorem foldl_splice:∀(vs:List Value) (off j:Nat) (cells:Array Value),off+j+vs.length≤cells.size→
  (vs.zipIdx j).foldl (λcs (c,i)=>cs.setIfInBounds (off+i) c) cells=(cells.toList.take (off+j)++vs++cells.toList.drop (off+j+vs.length)).toArray
 |[],off,j,cells,h=>by simp
 |v::vs,off,j,cells,h=>by
  simp only[List.zipIdx_cons,List.foldl_cons];rw[foldl_splice vs off (j+1) _ (by simp at h⊢;omega)];simp only[List.length_cons] at h;have hk:off+j<cells.toList.length:=by simp;omega
  have e0:(cells.setIfInBounds (off+j) v).toList=cells.toList.set (off+j) v:=by simp
  have e1:(cells.toList.set (off+j) v).take (off+j+1)=cells.toList.take (off+j)++[v]:=by rw[List.take_add_one,List.take_set_of_le (Nat.le_refl _),List.getElem?_set_self hk];rfl
  have e2:(cells.toList.set (off+j) v).drop (off+j+1+vs.length)=cells.toList.drop (off+j+1+vs.length):=List.drop_set_of_lt (by omega);rw[e0,show off+(j+1)=off+j+1 by omega,e1,e2];rw[show off+j+(v::vs).length=off+j+1+vs.length by simp;omega];simp
theorem fill_rel {place:Nat→Option (Nat×Nat)}:∀{places:List (Nat×Nat)} {as:List AVal} {parts:List (Nat×Value)} {cs:List AVal} {us:Array Value} {cs':List AVal},fillAt cs (places.zip as)=some cs'→places.length=as.length→
  parts.map (λp=>place p.1)=places.map some→VRelV γ as (parts.map (·.2))→VRelV γ cs us.toList→(∀u∈us.toList,u.oneCell'=true)→
  ∃us',Instr.fill place us parts=some us'∧VRelV γ cs' us'.toList∧∀u∈us'.toList,u.oneCell'=true
 |[],as,parts,cs,us,cs',h,hl,hp,ha,hr,h1=>by
  have:parts=[]:=by simpa using hp
  subst this;simp only[List.zip_nil_left,fillAt] at h
  cases h
  exact⟨us,rfl,hr,h1⟩
 |(off,size)::places,[],parts,cs,us,cs',h,hl,hp,ha,hr,h1=>by simp at hl
 |(off,size)::places,a::as,[],cs,us,cs',h,hl,hp,ha,hr,h1=>by simp at hp
 |(off,size)::places,a::as,(i,v)::parts,cs,us,cs',h,hl,hp,ha,hr,h1=>by
  simp only[List.zip_cons_cons,fillAt] at h;split at h
  ·rename_i hc;obtain⟨c1,c2,c3⟩:=hc;simp only[List.map_cons,List.cons.injEq] at hp;obtain⟨_,_,e,hav,ha'⟩:=ha.cons_inv;simp only[List.map_cons,List.cons.injEq] at e;obtain⟨e1,e2⟩:=e;subst e1;subst e2;obtain⟨q1,q2⟩:=cells_rel hav (by omega);have hsz:v.cells.size=size:=by have:=q1.length;simp at this;omega
   have hus:us.size=cs.length:=by have:=hr.length;simpa using this
   have hf:=foldl_splice v.cells.toList off 0 us (by simp[hsz];omega);obtain⟨us',r1,r2,r3⟩:=fill_rel (place:=place) (us:=(us.toList.take off++v.cells.toList++us.toList.drop (off+size)).toArray) h (by simpa using hl) hp.2 ha'
    (by simpa using((hr.take off).append q1).append (hr.drop (off+size)))
    (λu hu=>by
     simp only[List.mem_append] at hu;rcases hu with(hu|hu)|hu
     ·exact h1 u (List.mem_of_mem_take hu)
     ·exact q2 u hu
     ·exact h1 u (List.mem_of_mem_drop hu))
   refine⟨us',?_,r2,r3⟩;rw[Instr.fill];simp only[hp.1];rw[if_neg (by simp[hsz];omega)];rw[←r1]
   congr 1
   have e5:v.cells.toList.length=size:=by simpa using hsz
   rw[←Array.foldl_toList,Array.toList_zipIdx,hf];simp[e5]
  ·cases h
theorem ofConst_cells {v:Value} {a:AVal} (h:ofConst v=some a):VRelV γ a.cells v.cells.toList∧∀u∈v.cells.toList,u.oneCell'=true:=by
 have hr:=ofConst_rel (γ:=γ) h;unfold ofConst at h;split at h
 ·rename_i cs
  cases hs:ofScalars cs.toList with
  |none=>rw[hs] at h;cases h
  |some as=>rw[hs] at h;cases h;exact ofScalars_rel hs
 ·refine cells_rel hr ?_;unfold ofScalar at h;split at h<;>first|(cases h;simp[AVal.cells];done)|skip
  ·split at h
   ·cases h;simp[AVal.cells]
   ·cases h
  ·cases h
theorem placesOf_struct {t:TypeId} {fs:Array Field} (hu:P.underlying t=some (.struct fs)) {place:Nat→Option (Nat×Nat)} (hpl:∀(i:Nat) (f:Field) (n:Nat),fs[i]?=some f→tySize P f.type=some n→place i=some (f.offset,n)):
  ∀{parts:List (Nat×Operand)} {ps:List (Nat×Nat)},placesOf P t parts=some ps→parts.map (λp=>place p.1)=ps.map some
 |[],ps,h=>by cases h;rfl
 |(i,x)::rest,ps,h=>by
  simp only[placesOf,hu] at h;split at h
  ·rename_i f hf;split at h
   ·rename_i n r h1 h2
    cases h
    simp[hpl i f n hf h1,placesOf_struct hu hpl h2]
   ·cases h
  ·cases h
theorem placesOf_array {t e:TypeId} {len n:Nat} (hu:P.underlying t=some (.array len e)) (hn:tySize P e=some n):
  ∀{parts:List (Nat×Operand)} {ps:List (Nat×Nat)},placesOf P t parts=some ps→parts.map (λp=>some (p.1*n,n))=ps.map some
 |[],ps,h=>by cases h;rfl
 |(i,x)::rest,ps,h=>by
  simp only[placesOf,hu] at h;split at h
  ·split at h
   ·rename_i n' r h1 h2
    cases h
    rw[hn] at h1;cases h1;simp[placesOf_array hu hn h2]
   ·cases h
  ·cases h
theorem mapM_places:∀(fs:List Field),(fs.all λf=>(tySize P f.type).isSome)=true→∃places,fs.mapM (λf=>(P.info? f.type).map λi=>(f.offset,i.size))=some places∧
  ∀(i:Nat) (f:Field) (n:Nat),fs[i]?=some f→tySize P f.type=some n→places[i]?=some (f.offset,n)
 |[],_=>⟨[],rfl,by simp⟩
 |f::fs,h=>by
  simp only[List.all_cons,Bool.and_eq_true] at h;obtain⟨rest,h1,h2⟩:=mapM_places fs h.2
  cases hi:P.info? f.type with
  |none=>simp[tySize,hi] at h
  |some ti=>
   refine⟨(f.offset,ti.size)::rest,by simp[hi,h1],λi g n hg hn=>?_⟩
   cases i with
   |zero=>simp at hg;subst hg;simp[tySize,hi] at hn;simp[hn]
   |succ i=>simpa using h2 i g n (by simpa using hg) hn
theorem run_mkagg {t:TypeId} {z:AVal} {parts:Array (Nat×Operand)} {ps:List (Nat×Nat)} {ρ:Operand→Value} (hz:tyZero P t=some z) (hp:placesOf P t parts.toList=some ps) (hb:buildOk P t=true) {as:List AVal}
  (ha:VRelV γ as ((parts.toList.map (·.2)).map ρ)) {u:AVal} (h:peval (.mkagg z.cells ps) as=some u):∃v,(Instr.build t (parts.map λ(i,x)=>(i,ρ x))).run P w= .ok v w∧VRel γ u v:=by
 simp only[peval] at h;split at h
 ·rename_i hl
  cases hf:fillAt z.cells (ps.zip as) with
  |none=>rw[hf] at h;cases h
  |some cs=>
   rw[hf] at h;cases h;unfold tyZero at hz
   cases hi:P.info? t with
   |none=>rw[hi] at hz;cases hz
   |some ti=>
    cases hz':ti.zero with
    |none=>rw[hi] at hz;simp[hz'] at hz
    |some zv=>
     rw[hi] at hz;simp only[Option.bind_some,hz'] at hz;obtain⟨z1,z2⟩:=ofConst_cells (γ:=γ) hz;have hparts:((parts.map λ(i,x)=>(i,ρ x)).toList.map (·.2))=(parts.toList.map (·.2)).map ρ:=by simp
     unfold buildOk at hb;split at hb
     ·rename_i fs hu;obtain⟨places,m1,m2⟩:=mapM_places fs.toList hb;obtain⟨us',f1,f2,f3⟩:=fill_rel (place:=λi=>places.toArray[i]?) (parts:=(parts.map λ(i,x)=>(i,ρ x)).toList) hf hl
       (by have:=placesOf_struct hu (λi f n h1 h2=>by simpa using m2 i f n (by simpa using h1) h2) hp;rw[←this];simp) (by rw[hparts];exact ha) z1 z2
      exact⟨.agg us',run_build w t _ _ (by unfold Program.built;simp only[hi,hu,hz',m1];exact f1),us',rfl,f2,f3⟩
     ·rename_i len e hu
      cases he:P.info? e with
      |none=>simp[tySize,he] at hb
      |some ei=>
       obtain⟨us',f1,f2,f3⟩:=fill_rel (place:=λi=>some (i*ei.size,ei.size)) (parts:=(parts.map λ(i,x)=>(i,ρ x)).toList) hf hl
        (by have:=placesOf_array hu (n:=ei.size) (by simp[tySize,he]) hp;rw[←this];simp) (by rw[hparts];exact ha) z1 z2
       exact⟨.agg us',run_build w t _ _ (by unfold Program.built;simp only[hi,hu,hz',he];exact f1),us',rfl,f2,f3⟩
     ·cases hb
 ·cases h
end
end Go.Am
end
section
namespace Go.Am
open Go
def POp.still:POp→Bool
 | .append _ _| .mksl _| .nosl _| .s2b| .b2s=>false
 |_=>true
theorem amem_some {o:MOp} {dst:Option Nat} {x:Option (List AVal)} {r:OpR} (h:amem o dst x=some r):∃args,x=some args∧r= .mem o args dst:=by
 unfold amem at h
 grind
theorem amem_not {o:MOp} {dst:Option Nat} {x:Option (List AVal)} {p:POp} {args:List AVal} {d:Option Nat} {own:Bool} {dem:Option (Nat×AVal)}:¬amem o dst x=some (.op p args d own dem):=λh=>by
 obtain⟨_,_,e⟩:=amem_some h
 cases e
theorem aop_some {p:POp} {dst:Option Nat} {x:Option (List AVal)} {r:OpR} (h:aop p dst x=some r):∃args,x=some args∧r= .op p args dst false none:=by
 cases x with
 |none=>cases h
 |some args=>cases h;exact⟨args,rfl,rfl⟩
section
variable {C:Ctx} {γ0 γ:Gh} {w0 w:World} {β:Nat→Nat} {σ:Env} {h:AHeap} {a:Act} {fid:FuncId} {ops:List Oper}
def Stills (P:Program) (γ:Gh) (a:Act) (o:Oper) (w:World) (p:POp) (args:List AVal):Prop:=
 ∀u,peval p args=some u→∃v,(execOp a.eval o).run P w= .ok (.value v) w∧VRel γ u v
theorem run_value {P:Program} {s:Sem Value} {v:Value} (hs:s.run P w= .ok v w):(do pure (Next.value (←s)):Sem Next).run P w= .ok (.value v) w:=by simp[hs]
theorem still_pick {o:Oper} {c x y:Operand} (ho:o.op= .pick c x y) (hr:Rel C γ0 w0 γ β σ h a w) {args:List AVal} (ha:opVals C σ [c,x,y]=some args):Stills C.P γ a o w .pick args:=by
 intro u hu;simp only[peval] at hu;split at hu
 ·rename_i b p q
  cases hu
  obtain⟨_,_,_,e,h1,h2,h3⟩:=(opVals_rel hr ha).three;simp only[List.map_cons,List.map_nil,List.cons.injEq] at e;obtain⟨e1,e2,e3,_⟩:=e;rw[←e1] at h1;rw[←e2] at h2;rw[←e3] at h3;refine⟨if b then a.eval x else a.eval y,?_,by cases b<;>simpa⟩;simp[execOp,ho,rel_bool h1,asBool]
 ·cases hu
theorem still_bin {o:Oper} {op:BinOp} {t:TypeId} {x y:Operand} {p:POp} (hp:binKind C.P op t=some p) (he:execOp a.eval o=(do pure (Next.value (←(do eqGuard op t x y (a.eval x) (a.eval y);binOp op t (a.eval x) (a.eval y):Sem Value)))))
  (hr:Rel C γ0 w0 γ β σ h a w) {args:List AVal} (ha:opVals C σ [x,y]=some args):Stills C.P γ a o w p args:=by
 intro u hu;obtain⟨v,p1,p2⟩:=run_binKind hp x y (opVals_rel hr ha) hu;exact⟨v,by rw[he];exact run_value p1,p2⟩
theorem args_one (hr:Rel C γ0 w0 γ β σ h a w) {x:Operand} {args:List AVal} (ha:opVals C σ [x]=some args):∃u,args=[u]∧VRel γ u (a.eval x):=by
 have h1:=opVals_rel hr ha
 cases args with
 |nil=>cases h1
 |cons u us=>
  obtain⟨_,_,e,h2,h3⟩:=h1.cons_inv
  cases e
  cases us with
  |nil=>exact⟨u,rfl,h2⟩
  |cons _ _=>obtain⟨_,_,e,_⟩:=h3.cons_inv;cases e
theorem args_two (hr:Rel C γ0 w0 γ β σ h a w) {x y:Operand} {args:List AVal} (ha:opVals C σ [x,y]=some args):∃u v,args=[u,v]∧VRel γ u (a.eval x)∧VRel γ v (a.eval y):=by
 have h1:=opVals_rel hr ha
 cases args with
 |nil=>cases h1
 |cons u us=>
  obtain⟨_,_,e,h2,h3⟩:=h1.cons_inv
  cases e
  cases us with
  |nil=>cases h3
  |cons v vs=>
   obtain⟨_,_,e,h4,h5⟩:=h3.cons_inv
   cases e
   cases vs with
   |nil=>exact⟨u,v,rfl,h2,h4⟩
   |cons _ _=>obtain⟨_,_,e,_⟩:=h5.cons_inv;cases e
theorem still_un {o:Oper} {op:UnOp} {x:Operand} (he:execOp a.eval o=(do pure (Next.value (←Op.unary op (a.eval x)))))
  (hr:Rel C γ0 w0 γ β σ h a w) {args:List AVal} (ha:opVals C σ [x]=some args):Stills C.P γ a o w (.un op) args:=by
 intro u hu;obtain⟨v,rfl,h1⟩:=args_one hr ha;obtain⟨r,p1,p2⟩:=run_un (P:=C.P) (w:=w) h1 hu;simp_all
theorem still_conv {o:Oper} {src dst:TypeId} {k l:IntKind} {x:Operand} (hs:C.P.underlying src=some (.int l)) (hd:C.P.underlying dst=some (.int k)) (he:execOp a.eval o=(do pure (Next.value (←convert src dst (a.eval x)))))
  (hr:Rel C γ0 w0 γ β σ h a w) {args:List AVal} (ha:opVals C σ [x]=some args):Stills C.P γ a o w (.conv k) args:=by
 intro u hu;obtain⟨v,rfl,h1⟩:=args_one hr ha;simp only[peval] at hu;split at hu
 ·rename_i e
  cases e;cases hu
  rw[rel_int h1] at he;exact⟨_,by rw[he];exact run_value (run_conv_int hs hd),rfl⟩
 ·cases hu
theorem still_i2s {o:Oper} {src dst:TypeId} {l:IntKind} {x:Operand} (hs:C.P.underlying src=some (.int l)) (hd:C.P.underlying dst=some .string) (he:execOp a.eval o=(do pure (Next.value (←convert src dst (a.eval x)))))
  (hr:Rel C γ0 w0 γ β σ h a w) {args:List AVal} (ha:opVals C σ [x]=some args):Stills C.P γ a o w .i2s args:=by
 intro u hu;obtain⟨v,rfl,h1⟩:=args_one hr ha;simp only[peval] at hu;split at hu
 ·rename_i e
  cases e;cases hu
  rw[rel_int h1] at he;exact⟨_,by rw[he];exact run_value (run_conv_str hs hd),rfl⟩
 ·cases hu
theorem still_field {o:Oper} {t:TypeId} {x:Operand} {f off:Nat} {sh:Option Nat} (hf:fieldOff C.P t f=some (off,sh)) (he:execOp a.eval o=(do pure (Next.value (←Instr.field t (a.eval x) f))))
  (hr:Rel C γ0 w0 γ β σ h a w) {args:List AVal} (ha:opVals C σ [x]=some args):Stills C.P γ a o w (.part off sh) args:=by
 intro u hu;obtain⟨v,rfl,h1⟩:=args_one hr ha;simp only[peval] at hu;split at hu
 ·rename_i e
  cases e
  obtain⟨r,p1,p2⟩:=run_field (w:=w) hf h1 hu;simp_all
 ·cases hu
theorem still_fieldAddr {o:Oper} {t:TypeId} {x:Operand} {f off:Nat} {sh:Option Nat} (hf:fieldOff C.P t f=some (off,sh)) (he:execOp a.eval o=(do pure (Next.value (←Instr.fieldAt t (a.eval x) f))))
  (hr:Rel C γ0 w0 γ β σ h a w) {args:List AVal} (ha:opVals C σ [x]=some args):Stills C.P γ a o w (.faddr off) args:=by
 intro u hu;obtain⟨v,rfl,h1⟩:=args_one hr ha;obtain⟨r,p1,p2⟩:=run_fieldAt (w:=w) hf h1 hu;simp_all
theorem still_ext {o:Oper} {x:Operand} {i:Nat} (he:execOp a.eval o=(do pure (Next.value (←Instr.extract (a.eval x) i))))
  (hr:Rel C γ0 w0 γ β σ h a w) {args:List AVal} (ha:opVals C σ [x]=some args):Stills C.P γ a o w (.ext i) args:=by
 intro u hu;obtain⟨v,rfl,h1⟩:=args_one hr ha;simp only[peval] at hu;split at hu
 ·rename_i e
  cases e
  obtain⟨r,p1,p2⟩:=run_ext (P:=C.P) (w:=w) h1 hu;simp_all
 ·cases hu
theorem still_index_str {o:Oper} {t:TypeId} {x y:Operand} (ht:C.P.underlying t=some .string) (he:execOp a.eval o=(do pure (Next.value (←Instr.index t (a.eval x) (a.eval y)))))
  (hr:Rel C γ0 w0 γ β σ h a w) {args:List AVal} (ha:opVals C σ [x,y]=some args):Stills C.P γ a o w .sidx args:=by
 intro u hu;obtain⟨p,q,rfl,h1,h2⟩:=args_two hr ha;simp only[peval] at hu;split at hu
 ·rename_i e
  cases e
  split at hu
  ·rename_i s k i h0
   cases hb:s[i.toNat]? with
   |none=>rw[hb] at hu;cases hu
   |some b=>rw[hb] at hu;cases hu;rw[rel_str h1,rel_int h2] at he;exact⟨_,by rw[he];exact run_value (run_index_str ht h0 hb),rfl⟩
  ·cases hu
 ·cases hu
theorem still_index_arr {o:Oper} {t e:TypeId} {len n:Nat} {sh:Option Nat} {x y:Operand} (ht:C.P.underlying t=some (.array len e)) (hn:tySize C.P e=some n) (hsh:tyShape C.P e=some sh) (he:execOp a.eval o=(do pure (Next.value (←Instr.index t (a.eval x) (a.eval y)))))
  (hr:Rel C γ0 w0 γ β σ h a w) {args:List AVal} (ha:opVals C σ [x,y]=some args):Stills C.P γ a o w (.aidx len n sh) args:=by
 intro u hu;obtain⟨p,q,rfl,h1,h2⟩:=args_two hr ha;simp only[peval] at hu;split at hu
 ·rename_i e
  cases e
  rename_i cs k i
  cases hb:idxOf i len with
  |none=>rw[hb] at hu;cases hu
  |some j=>rw[hb] at hu;rw[rel_int h2] at he;obtain⟨r,p1,p2⟩:=run_index_arr (w:=w) (k:=k) ht hn hsh h1 hb hu;simp_all
 ·cases hu
theorem still_elemAddr {o:Oper} {t e:TypeId} {n:Nat} {x y:Operand} (ht:C.P.underlying t=some (.slice e)) (hn:tySize C.P e=some n) (he:execOp a.eval o=(do pure (Next.value (←Instr.indexAt t (a.eval x) (a.eval y)))))
  (hr:Rel C γ0 w0 γ β σ h a w) {args:List AVal} (ha:opVals C σ [x,y]=some args):Stills C.P γ a o w (.eaddr n) args:=by
 intro u hu;obtain⟨p,q,rfl,h1,h2⟩:=args_two hr ha;simp only[peval] at hu;split at hu
 ·rename_i e
  cases e
  rename_i k i;rw[rel_int h2] at he;obtain⟨r,p1,p2⟩:=run_elemAt (w:=w) (k:=k) ht hn h1 hu;simp_all
 ·cases hu
theorem still_arrAddr {o:Oper} {t e:TypeId} {len n:Nat} {x y:Operand} (ht:C.P.underlying t=some (.array len e)) (hn:tySize C.P e=some n) (he:execOp a.eval o=(do pure (Next.value (←Instr.indexAt t (a.eval x) (a.eval y)))))
  (hr:Rel C γ0 w0 γ β σ h a w) {args:List AVal} (ha:opVals C σ [x,y]=some args):Stills C.P γ a o w (.aaddr len n) args:=by
 intro u hu;obtain⟨p,q,rfl,h1,h2⟩:=args_two hr ha;simp only[peval] at hu;split at hu
 ·rename_i e
  cases e
  rename_i k i
  cases hb:idxOf i len with
  |none=>rw[hb] at hu;cases hu
  |some j=>rw[hb] at hu;rw[rel_int h2] at he;obtain⟨r,p1,p2⟩:=run_arrAt (w:=w) (k:=k) ht hn h1 hb hu;simp_all
 ·cases hu
theorem still_slice {o:Oper} {t:TypeId} {x:Operand} {lo hi:Option Operand} {isStr:Bool} {size:Nat} (ht:if isStr=true then C.P.underlying t=some .string else∃e,C.P.underlying t=some (.slice e)∧tySize C.P e=some size)
  (he:execOp a.eval o=(do pure (Next.value (←Instr.sliceAt t (a.eval x) (lo.map a.eval) (hi.map a.eval) none))))
  (hr:Rel C γ0 w0 γ β σ h a w) {args:List AVal} (ha:opVals C σ (x::(lo.toList++hi.toList))=some args):Stills C.P γ a o w (.slc size isStr lo.isSome hi.isSome) args:=by
 intro u hu;have h1:=opVals_rel hr ha
 cases args with
 |nil=>cases h1
 |cons s as=>
  obtain⟨_,_,e,h2,h3⟩:=h1.cons_inv
  cases e
  simp only[peval] at hu;obtain⟨r,p1,p2⟩:=run_slc (w:=w) (lo:=lo.map a.eval) (hi:=hi.map a.eval) ht h2 (by cases lo<;>cases hi<;>simpa using h3) (by simpa using hu);simp_all
theorem still_build {o:Oper} {t:TypeId} {parts:Array (Nat×Operand)} {z:AVal} {ps:List (Nat×Nat)} (hz:tyZero C.P t=some z) (hp:placesOf C.P t parts.toList=some ps) (hb:buildOk C.P t=true)
  (he:execOp a.eval o=(do pure (Next.value (←Instr.build t (parts.map λ(i,x)=>(i,a.eval x))))))
  (hr:Rel C γ0 w0 γ β σ h a w) {args:List AVal} (ha:opVals C σ (parts.toList.map (·.2))=some args):Stills C.P γ a o w (.mkagg z.cells ps) args:=by
 intro u hu;obtain⟨r,p1,p2⟩:=run_mkagg (w:=w) hz hp hb (opVals_rel hr ha) hu;simp_all
theorem still_nonnil {o:Oper} {x:Operand} (ho:o.op= .nilCheck x) (hr:Rel C γ0 w0 γ β σ h a w) {args:List AVal} (ha:opVals C σ [x]=some args):Stills C.P γ a o w .nonnil args:=by
 intro u hu;obtain⟨v,rfl,h1⟩:=args_one hr ha;simp only[peval,nonnilOf] at hu;split at hu
 ·rename_i p
  cases hu
  obtain⟨i,k⟩:=p;obtain⟨b,hb,hv⟩:=h1;exact⟨_,by simp only[execOp,ho,hv];rfl,b,hb,rfl⟩
 ·cases hu
  obtain⟨b,k,hv,hm⟩:=h1;exact⟨_,by simp only[execOp,ho,hv];rfl,b,k,rfl,hm⟩
 ·cases hu
  obtain⟨fs,cs,hv,p,q⟩:=h1;exact⟨_,by simp only[execOp,ho,hv];rfl,fs,cs,rfl,p,q⟩
 ·cases hu
theorem opVals_length:∀{xs:List Operand} {us:List AVal},opVals C σ xs=some us→us.length=xs.length
 |[],us,h=>by cases h;rfl
 |x::xs,us,h=>by
  unfold opVals at h;split at h
  ·rename_i u us' h1 h2
   cases h
   simp[opVals_length h2]
  ·cases h
theorem exec_builtin {P:Program} {o:Oper} {c:Call} {b:Builtin} {s:Sem Value} (ho:o.op= .call c) (hc:c.callee= .builtin b) (hs:builtin b c.argTypes o.type (c.args.map λ| .const _=>true|_=>false) (c.args.map a.eval)=(do pure (Next.value (←s)))) {v:Value}
  (hv:s.run P w= .ok v w):(execOp a.eval o).run P w= .ok (.value v) w:=by
 have:execOp a.eval o=(do pure (Next.value (←s))):=by rw[←hs];simp only[execOp,ho,resolve,hc];rfl
 simp_all
theorem still_len {o:Oper} {c:Call} {t:TypeId} {isStr:Bool} (ho:o.op= .call c) (hc:c.callee= .builtin .len) (h0:c.argTypes[0]?=some t) (ht:if isStr=true then C.P.underlying t=some .string else∃e,C.P.underlying t=some (.slice e))
  (hr:Rel C γ0 w0 γ β σ h a w) {args:List AVal} (ha:opVals C σ c.args.toList=some args):Stills C.P γ a o w (.len isStr) args:=by
 intro u hu;simp only[peval] at hu;split at hu
 ·rename_i s;have hl:=opVals_length ha;obtain⟨x,hx⟩:∃x,c.args.toList=[x]:=List.length_eq_one_iff.1 hl.symm;rw[hx] at ha;obtain⟨_,e,h1⟩:=args_one hr ha
  cases e
  obtain⟨r,p1,p2⟩:=run_len ht h0 h1 hu;have e:c.args.map a.eval=#[a.eval x]:=by apply Array.ext';simp[hx]
  exact⟨r,exec_builtin ho hc (by rw[e];rfl) p1,p2⟩
 ·cases hu
theorem still_minmax {o:Oper} {c:Call} {isMax:Bool} (ho:o.op= .call c) (hc:c.callee= .builtin (if isMax then .max else .min)) (hr:Rel C γ0 w0 γ β σ h a w) {args:List AVal} (ha:opVals C σ c.args.toList=some args):Stills C.P γ a o w (.minmax isMax) args:=by
 intro u hu;simp only[peval] at hu;split at hu
 ·rename_i k p l q;split at hu
  ·rename_i hk;subst hk
   cases hu
   have hl:=opVals_length ha;obtain⟨x,y,hx⟩:∃x y,c.args.toList=[x,y]:=by
    cases hq:c.args.toList with
    |nil=>rw[hq] at hl;simp at hl
    |cons x xs=>cases xs with
     |nil=>rw[hq] at hl;simp at hl
     |cons y ys=>cases ys with
      |nil=>exact⟨x,y,rfl⟩
      |cons _ _=>rw[hq] at hl;simp at hl
   rw[hx] at ha;obtain⟨_,_,e,h1,h2⟩:=args_two hr ha
   cases e
   have e:c.args.map a.eval=#[.int k p,.int k q]:=by apply Array.ext';simp[hx,rel_int h1,rel_int h2]
   cases isMax with
   |true=>exact⟨_,exec_builtin ho hc (by rw[e];rfl) (by simp[Builtin.max_,Builtin.max2]),rfl⟩
   |false=>exact⟨_,exec_builtin ho hc (by rw[e];rfl) (by simp[Builtin.min_,Builtin.min2]),rfl⟩
  ·cases hu
 ·cases hu
end
end Go.Am
end
section
namespace Go.Am
open Go
section
variable {C:Ctx} {γ0 γ:Gh} {w0 w:World} {β:Nat→Nat} {σ:Env} {h:AHeap} {a:Act} {fid:FuncId} {ops:List Oper}
theorem moveOp_pure {x:Operand} {d:Nat} {take:Bool} {r:OpR} (h:moveOp C σ x d take=some r):∃ws,r= .pure ws:=by
 unfold moveOp at h;split at h
 ·grind
 ·grind
 ·split at h
  ·grind
  ·cases hc:copySlot _ with
   |none=>rw[hc] at h;cases h
   |some s=>rw[hc] at h;cases h;exact⟨_,rfl⟩
 ·cases hc:copySlot _ with
  |none=>rw[hc] at h;cases h
  |some s=>rw[hc] at h;cases h;exact⟨_,rfl⟩
 ·cases h
theorem boxOp_not {t:TypeId} {v:AVal} {d:Nat} {p:POp} {args:List AVal} {dst:Option Nat} {own:Bool} {dem:Option (Nat×AVal)}:boxOp C fid t v d≠some (.op p args dst own dem):=by
 unfold boxOp
 grind
theorem loadOp_not {t:TypeId} {x:Operand} {d:Nat} {take:Bool} {p:POp} {args:List AVal} {dst:Option Nat} {own:Bool} {dem:Option (Nat×AVal)}:loadOp C σ t x d take≠some (.op p args dst own dem):=by
 unfold loadOp
 grind
theorem storeOp_not {t:TypeId} {x y:Operand} {p:POp} {args:List AVal} {dst:Option Nat} {own:Bool} {dem:Option (Nat×AVal)}:storeOp C σ t x y≠some (.op p args dst own dem):=by
 unfold storeOp
 grind
theorem sim_still {o:Oper} {p:POp} {args:List AVal} {dst:Option Nat} {own:Bool} {dem:Option (Nat×AVal)} (hc:classify C fid ops σ o=some (.op p args dst own dem)) (hst:p.still=true) (hr:Rel C γ0 w0 γ β σ h a w):
  Stills C.P γ a o w p args∧dst=o.dst∧own=false∧dem=none:=by
 unfold classify at hc
 split at hc
 ·split at hc
  ·obtain⟨ws,e⟩:=moveOp_pure hc;cases e
  ·cases hc
 ·split at hc
  ·obtain⟨ws,e⟩:=moveOp_pure hc;cases e
  ·cases hc
 ·rename_i c x y ho
  split at hc
  ·obtain⟨ws,e⟩:=moveOp_pure hc;cases e
  ·obtain⟨ws,e⟩:=moveOp_pure hc;cases e
  ·obtain⟨as,e1,e2⟩:=aop_some hc
   cases e2
   exact⟨still_pick ho hr e1,rfl,rfl,rfl⟩
 ·split at hc
  ·split at hc
   ·split at hc<;>cases hc
   ·exact absurd hc boxOp_not
  ·cases hc
 ·split at hc
  ·exact absurd hc boxOp_not
  ·cases hc
 ·rename_i t parts ho
  split at hc
  ·rename_i z ps hz hp
   split at hc
   ·rename_i hb
    obtain⟨as,e1,e2⟩:=aop_some hc
    cases e2
    exact⟨still_build hz hp hb (by simp[execOp,ho]) hr e1,rfl,rfl,rfl⟩
   ·cases hc
  ·cases hc
 ·split at hc
  ·split at hc
   ·split at hc
    ·split at hc
     ·cases hc;cases hst
     ·cases hq:opVals C σ _ with
      |none=>rw[hq] at hc;cases hc
      |some q=>rw[hq] at hc;cases hc;cases hst
    ·cases hc
   ·cases hc
  ·cases hc
 ·split at hc
  ·exact absurd hc loadOp_not
  ·cases hc
 ·split at hc
  ·exact absurd hc storeOp_not
  ·cases hc
 ·rename_i x ho
  split at hc
  ·cases hc
  ·cases hc
  ·obtain⟨as,e1,e2⟩:=aop_some hc
   cases e2
   exact⟨still_nonnil ho hr e1,rfl,rfl,rfl⟩
 ·rename_i op t x y k ho
  split at hc
  ·rename_i q hq
   obtain⟨as,e1,e2⟩:=aop_some hc
   cases e2
   exact⟨still_bin hq (by simp[execOp,ho]) hr e1,rfl,rfl,rfl⟩
  ·cases hc
 ·rename_i op t x ho
  obtain⟨as,e1,e2⟩:=aop_some hc
  cases e2
  exact⟨still_un (by simp[execOp,ho]) hr e1,rfl,rfl,rfl⟩
 ·rename_i src dst' x ho
  split at hc
  ·cases hq:opVal C σ x with
   |none=>rw[hq] at hc;cases hc
   |some q=>rw[hq] at hc;cases hc
  ·split at hc
   ·cases hq:opVal C σ x with
    |none=>rw[hq] at hc;cases hc
    |some q=>rw[hq] at hc;cases hc
   ·obtain⟨as,e1,e2⟩:=aop_some hc
    cases e2;cases hst
  ·rename_i q hn1 hn2 hq
   obtain⟨as,e1,e2⟩:=aop_some hc
   cases e2
   refine⟨?_,rfl,rfl,rfl⟩
   unfold convOp at hq
   split at hq
   ·rename_i hs hd
    cases hq
    exact still_conv hs hd (by simp[execOp,ho]) hr e1
   ·rename_i hs hd
    cases hq
    exact still_i2s hs hd (by simp[execOp,ho]) hr e1
   ·cases hq
   ·split at hq
    ·cases hq;cases hst
    ·cases hq
   ·split at hq
    ·cases hq;cases hst
    ·cases hq
   ·cases hq
  ·cases hc
 ·split at hc
  ·cases hc
  ·cases hc
 ·cases hc
 ·split at hc
  ·split at hc<;>cases hc
  ·cases hc
 ·split at hc
  ·split at hc<;>cases hc
  ·cases hc
 ·split at hc
  ·split at hc<;>cases hc
  ·cases hc
 ·split at hc
  ·split at hc<;>cases hc
  ·cases hc
 ·split at hc
  ·split at hc
   ·exact absurd hc amem_not
   ·cases hc
  ·cases hc
 ·split at hc
  ·cases hc
  ·exact absurd hc amem_not
  ·cases hc
 ·split at hc
  ·split at hc<;>first|exact absurd hc amem_not|cases hc
  ·cases hc
 ·split at hc
  ·exact absurd hc amem_not
  ·cases hc
 ·rename_i t x lo hi ho
  split at hc
  ·rename_i ht
   obtain⟨as,e1,e2⟩:=aop_some hc
   cases e2
   exact⟨still_slice (isStr:=true) ht (by simp[execOp,ho]) hr e1,rfl,rfl,rfl⟩
  ·rename_i e ht
   split at hc
   ·rename_i n hn
    split at hc
    ·exact absurd hc amem_not
    ·obtain⟨as,e1,e2⟩:=aop_some hc
     cases e2
     exact⟨still_slice (isStr:=false) ⟨e,ht,hn⟩ (by simp[execOp,ho]) hr e1,rfl,rfl,rfl⟩
   ·cases hc
  ·cases hc
 ·rename_i t x f ho
  split at hc
  ·rename_i off sh d hf hd
   split at hc
   ·cases hc
   ·cases hc
   ·obtain⟨as,e1,e2⟩:=aop_some hc
    cases e2
    exact⟨still_fieldAddr hf (by simp[execOp,ho]) hr e1,hd.symm,rfl,rfl⟩
  ·cases hc
 ·rename_i t x f ho
  split at hc
  ·rename_i off sh hf
   obtain⟨as,e1,e2⟩:=aop_some hc
   cases e2
   exact⟨still_field hf (by simp[execOp,ho]) hr e1,rfl,rfl,rfl⟩
  ·cases hc
 ·rename_i t x i ho
  split at hc
  ·rename_i e ht
   split at hc
   ·rename_i n hn
    obtain⟨as,e1,e2⟩:=aop_some hc
    cases e2
    exact⟨still_elemAddr ht hn (by simp[execOp,ho]) hr e1,rfl,rfl,rfl⟩
   ·cases hc
  ·rename_i len e ht
   split at hc
   ·rename_i n hn
    split at hc
    ·cases hc
    ·obtain⟨as,e1,e2⟩:=aop_some hc
     cases e2
     exact⟨still_arrAddr ht hn (by simp[execOp,ho]) hr e1,rfl,rfl,rfl⟩
   ·cases hc
  ·cases hc
 ·rename_i t x i ho
  split at hc
  ·rename_i ht
   obtain⟨as,e1,e2⟩:=aop_some hc
   cases e2
   exact⟨still_index_str ht (by simp[execOp,ho]) hr e1,rfl,rfl,rfl⟩
  ·rename_i len e ht
   split at hc
   ·rename_i n sh hn hsh
    obtain⟨as,e1,e2⟩:=aop_some hc
    cases e2
    exact⟨still_index_arr ht hn hsh (by simp[execOp,ho]) hr e1,rfl,rfl,rfl⟩
   ·cases hc
  ·cases hc
 ·rename_i x i ho
  obtain⟨as,e1,e2⟩:=aop_some hc
  cases e2
  exact⟨still_ext (by simp[execOp,ho]) hr e1,rfl,rfl,rfl⟩
 ·rename_i c ho
  unfold callOp at hc
  split at hc
  ·rename_i hcl
   split at hc
   ·rename_i t h0
    split at hc
    ·rename_i ht
     obtain⟨as,e1,e2⟩:=aop_some hc
     cases e2
     exact⟨still_len (isStr:=true) ho hcl h0 ht hr e1,rfl,rfl,rfl⟩
    ·rename_i e ht
     obtain⟨as,e1,e2⟩:=aop_some hc
     cases e2
     exact⟨still_len (isStr:=false) ho hcl h0 ⟨e,ht⟩ hr e1,rfl,rfl,rfl⟩
    ·cases hc
   ·cases hc
  ·split at hc
   ·split at hc
    all_goals first
     |(cases hc;done)
     | (split at hc
        · split at hc
          · split at hc
            · split at hc
              · split at hc
                · cases hc
                · split at hc
                  · cases hc
                  · cases hc; cases hst
              · split at hc <;> cases hc
            · cases hc
          · cases hc
        · cases hc)
   ·cases hc
  ·split at hc
   ·split at hc
    all_goals first
     |(cases hc;done)
     | (split at hc
        · exact absurd hc amem_not
        · cases hc)
   ·cases hc
  ·split at hc
   ·split at hc
    ·split at hc
     ·exact absurd hc amem_not
     ·cases hc
    ·cases hc
   ·cases hc
  ·rename_i hcl
   split at hc
   ·obtain⟨as,e1,e2⟩:=aop_some hc
    cases e2
    exact⟨still_minmax (isMax:=true) ho hcl hr e1,rfl,rfl,rfl⟩
   ·cases hc
  ·rename_i hcl
   split at hc
   ·obtain⟨as,e1,e2⟩:=aop_some hc
    cases e2
    exact⟨still_minmax (isMax:=false) ho hcl hr e1,rfl,rfl,rfl⟩
   ·cases hc
  ·split at hc
   ·split at hc
    ·split at hc
     ·exact absurd hc amem_not
     ·cases hc
    ·cases hc
   split at hc
   ·cases hq:opVals C σ c.args.toList with
    |none=>rw[hq] at hc;cases hc
    |some q=>
     rw[hq] at hc
     simp only[Option.map_some,Option.some.injEq] at hc
     split at hc<;>cases hc
   ·cases hc
  ·split at hc<;>cases hc
  ·cases hc
 ·cases hc
end
end Go.Am
end
