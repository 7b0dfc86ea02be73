/- Parts of the proof. No law is claimed here. -/
import Derived.Test.YtbicpeplenomhaaGreatDoorR23
set_option linter.unusedVariables false
set_option linter.unusedSimpArgs false
section
namespace Go.Am
open Go
set_option maxRecDepth 100000
theorem or192:∀x:Fin 64,(BitVec.ofInt 8 192|||BitVec.ofInt 8 (x.val:Int)).toNat=192+x.val:=by decide
theorem or224:∀x:Fin 32,(BitVec.ofInt 8 224|||BitVec.ofInt 8 (x.val:Int)).toNat=224+x.val:=by decide
theorem or240:∀x:Fin 16,(BitVec.ofInt 8 240|||BitVec.ofInt 8 (x.val:Int)).toNat=240+x.val:=by decide
theorem or128:∀x:Fin 64,(BitVec.ofInt 8 128|||BitVec.ofInt 8 (x.val:Int)).toNat=128+x.val:=by decide
theorem and63:∀x:Fin 256,(BitVec.ofInt 8 (x.val:Int)&&& BitVec.ofInt 8 63).toNat=x.val%64:=by decide
theorem pe_or {a b:Int}:peval (.int .or) [.int .u8 a,.int .u8 b]=some (.int .u8 (IntKind.u8.wrap (BitVec.ofInt 8 a|||BitVec.ofInt 8 b).toNat)):=rfl
theorem pe_and {a b:Int}:peval (.int .and) [.int .u8 a,.int .u8 b]=some (.int .u8 (IntKind.u8.wrap (BitVec.ofInt 8 a&&& BitVec.ofInt 8 b).toNat)):=rfl
theorem pe_or192 {x:Nat} (h:x<64):peval (.int .or) [.int .u8 192,.int .u8 (x:Int)]=some (.int .u8 ((192+x:Nat):Int)):=by rw[pe_or,or192 ⟨x,h⟩,IntKind.wrap_u8];congr 2;simp only;omega
theorem pe_or224 {x:Nat} (h:x<32):peval (.int .or) [.int .u8 224,.int .u8 (x:Int)]=some (.int .u8 ((224+x:Nat):Int)):=by rw[pe_or,or224 ⟨x,h⟩,IntKind.wrap_u8];congr 2;simp only;omega
theorem pe_or240 {x:Nat} (h:x<16):peval (.int .or) [.int .u8 240,.int .u8 (x:Int)]=some (.int .u8 ((240+x:Nat):Int)):=by rw[pe_or,or240 ⟨x,h⟩,IntKind.wrap_u8];congr 2;simp only;omega
theorem pe_or128 {x:Nat} (h:x<64):peval (.int .or) [.int .u8 128,.int .u8 (x:Int)]=some (.int .u8 ((128+x:Nat):Int)):=by rw[pe_or,or128 ⟨x,h⟩,IntKind.wrap_u8];congr 2;simp only;omega
theorem pe_and63 {x:Nat} (h:x<256):peval (.int .and) [.int .u8 (x:Int),.int .u8 63]=some (.int .u8 ((x%64:Nat):Int)):=by rw[pe_and,and63 ⟨x,h⟩,IntKind.wrap_u8];congr 2;simp only;omega
theorem pe_shr6 {n:Nat}:peval (.int .shr) [.int .i32 (n:Int),.int .u64 6]=some (.int .i32 ((n/64:Nat):Int)):=by rw[show peval (.int .shr) [.int .i32 (n:Int),.int .u64 6]=some (.int .i32 ((n:Int).fdiv 64)) from rfl,Int.fdiv_eq_ediv_of_nonneg _ (by omega)];rfl
theorem pe_shr12 {n:Nat}:peval (.int .shr) [.int .i32 (n:Int),.int .u64 12]=some (.int .i32 ((n/4096:Nat):Int)):=by rw[show peval (.int .shr) [.int .i32 (n:Int),.int .u64 12]=some (.int .i32 ((n:Int).fdiv 4096)) from rfl,Int.fdiv_eq_ediv_of_nonneg _ (by omega)];rfl
theorem pe_shr18 {n:Nat}:peval (.int .shr) [.int .i32 (n:Int),.int .u64 18]=some (.int .i32 ((n/262144:Nat):Int)):=by rw[show peval (.int .shr) [.int .i32 (n:Int),.int .u64 18]=some (.int .i32 ((n:Int).fdiv 262144)) from rfl,Int.fdiv_eq_ediv_of_nonneg _ (by omega)];rfl
theorem pe_cu8 {k:IntKind} {n:Nat}:peval (.conv .u8) [.int k (n:Int)]=some (.int .u8 ((n%256:Nat):Int)):=by rw[pe_conv,IntKind.wrap_u8];congr 2
theorem pe_cu32 {n:Int}:peval (.conv .u32) [.int .i32 n]=some (.int .u32 (n%4294967296)):=by rw[pe_conv,IntKind.wrap_u32]
theorem u8n {n:Nat} (h:n<256):((UInt8.ofNat n).toNat:Int)=(n:Int):=by rw[UInt8.toNat_ofNat'];congr 1;omega
def byV (b:UInt8):AVal:= .int .u8 (b.toNat:Int)
theorem grow_bytes {h:AHeap} {bs:Bytes} (hb:bs≠[]) (hl:bs.length≤8):hgrow h 1 1 .slnil (.sl 1 (rowsOf bs))=some (h++[.cells (bs.map byV)],.msl h.length 0 bs.length 1):=by
 have hfl:∀bs:Bytes,(rowsOf bs).flatten=bs.map byV:=by
  intro bs;induction bs with
  |nil=>rfl
  |cons c bs ih=>show[byV c]++(rowsOf bs).flatten=_;rw[ih];rfl
 cases bs with
 |nil=>exact absurd rfl hb
 |cons c bs=>
  have hm:maxBytes=140737488355328:=rfl;have hlen:(rowsOf (c::bs)).length=(c::bs).length:=by simp[rowsOf]
  have e:rowsOf (c::bs)=[.int .u8 c.toNat]::rowsOf bs:=rfl;have e1:rowsAt h 1 (.sl 1 (rowsOf (c::bs)))=some (rowsOf (c::bs)):=by simp[rowsAt]
  unfold hgrow;rw[e1,e];simp only
  rw[←e,if_pos (by rw[hlen];omega),hfl,hlen]
theorem f35b {h:AHeap} (r:Int) (hr: -2147483648≤r∧r≤2147483647):Ret cx 84 [.slnil,.int .i32 r] h (.msl h.length 0 (utf8 r).length 1) (h++[.cells ((utf8 r).map byV)]):=by
 have one:∀{k1:Nat} (h1:k1<256),peval (.mksl 1) [.int .u8 (k1:Int)]=some (.sl 1 (rowsOf [UInt8.ofNat k1])):=by intro k1 h1;simp only[rowsOf,List.map_cons,List.map_nil,u8n h1];rfl
 have two:∀{k1 k2:Nat} (h1:k1<256) (h2:k2<256),peval (.mksl 1) [.int .u8 (k1:Int),.int .u8 (k2:Int)]=some (.sl 1 (rowsOf [UInt8.ofNat k1,UInt8.ofNat k2])):=by intro k1 k2 h1 h2;simp only[rowsOf,List.map_cons,List.map_nil,u8n h1,u8n h2];rfl
 have three:∀{k1 k2 k3:Nat} (h1:k1<256) (h2:k2<256) (h3:k3<256),peval (.mksl 1) [.int .u8 (k1:Int),.int .u8 (k2:Int),.int .u8 (k3:Int)]=some (.sl 1 (rowsOf [UInt8.ofNat k1,UInt8.ofNat k2,UInt8.ofNat k3])):=by intro k1 k2 k3 h1 h2 h3;simp only[rowsOf,List.map_cons,List.map_nil,u8n h1,u8n h2,u8n h3];rfl
 have four:∀{k1 k2 k3 k4:Nat} (h1:k1<256) (h2:k2<256) (h3:k3<256) (h4:k4<256),peval (.mksl 1) [.int .u8 (k1:Int),.int .u8 (k2:Int),.int .u8 (k3:Int),.int .u8 (k4:Int)]=some (.sl 1 (rowsOf [UInt8.ofNat k1,UInt8.ofNat k2,UInt8.ofNat k3,UInt8.ofNat k4])):=by intro k1 k2 k3 k4 h1 h2 h3 h4;simp only[rowsOf,List.map_cons,List.map_nil,u8n h1,u8n h2,u8n h3,u8n h4];rfl
 have bad:peval (.mksl 1) [.int .u8 239,.int .u8 191,.int .u8 189]=some (.sl 1 (rowsOf [239,191,189])):=rfl;rw[ret_iff,t84_eq,t84];simp only[amS,pe_cu32];by_cases h0:0≤r
 ·obtain⟨n,rfl⟩:=Int.eq_ofNat_of_zero_le h0;have em:(n:Int)%4294967296=(n:Int):=by omega
  rw[em];by_cases c1:n<128
  ·have e:utf8 (n:Int)=[UInt8.ofNat n]:=by unfold utf8;rw[if_pos (by omega)];rfl
   have e8:n%256=n:=by omega
   rw[e];simp only[amS,bxS,show(n:Int)≤127 by omega,pe_cu8,e8,one (show n<256 by omega),grow_bytes (bs:=[UInt8.ofNat n]) (by simp) (by simp)]
  ·have r106:Ret cx 145 [.slnil,.int .i32 (n:Int)] h (.msl h.length 0 (utf8 (n:Int)).length 1) (h++[.cells ((utf8 (n:Int)).map byV)]):=by
    rw[ret_iff,t145_eq,t145];simp only[amS,pe_cu32,em];by_cases c2:n<2048
    ·have e:utf8 (n:Int)=[UInt8.ofNat (192+n/64),UInt8.ofNat (128+n%64)]:=by unfold utf8;rw[if_neg (by omega),if_pos (by omega)];rfl
     rw[e];have a1:n/64%256=n/64:=by omega
     have a2:n%256%64=n%64:=by omega
     simp only[amS,bxS,show(n:Int)≤2047 by omega,pe_shr6,pe_cu8,a1,pe_or192 (show n/64<64 by omega),pe_and63 (show n%256<256 by omega),a2,pe_or128 (show n%64<64 by omega),two (show 192+n/64<256 by omega) (show 128+n%64<256 by omega),grow_bytes (bs:=[UInt8.ofNat (192+n/64),UInt8.ofNat (128+n%64)]) (by simp) (by simp)]
    ·by_cases c3:n<65536∧¬(55296≤n∧n<57344)
     ·have e:utf8 (n:Int)=[UInt8.ofNat (224+n/4096),UInt8.ofNat (128+n/64%64),UInt8.ofNat (128+n%64)]:=by unfold utf8;rw[if_neg (by omega),if_neg (by omega),if_pos (by omega)];rfl
      rw[e];have a1:n/4096%256=n/4096:=by omega
      have a2:n/64%256%64=n/64%64:=by omega
      have a3:n%256%64=n%64:=by omega
      have g:=grow_bytes (h:=h) (bs:=[UInt8.ofNat (224+n/4096),UInt8.ofNat (128+n/64%64),UInt8.ofNat (128+n%64)]) (by simp) (by simp);have t3:=three (show 224+n/4096<256 by omega) (show 128+n/64%64<256 by omega) (show 128+n%64<256 by omega);by_cases c4:n<55296
      ·simp only[amS,bxS,show¬(n:Int)≤2047 by omega,show(n:Int)<55296 by omega,pe_shr6,pe_shr12,pe_cu8,a1,pe_or224 (show n/4096<32 by omega),pe_and63 (show n/64%256<256 by omega),a2,pe_or128 (show n/64%64<64 by omega),pe_and63 (show n%256<256 by omega),a3,pe_or128 (show n%64<64 by omega),t3,g]
      ·simp only[amS,bxS,show¬(n:Int)≤2047 by omega,show¬(n:Int)<55296 by omega,show(57343:Int)<n by omega,show(n:Int)≤65535 by omega,pe_shr6,pe_shr12,pe_cu8,a1,pe_or224 (show n/4096<32 by omega),pe_and63 (show n/64%256<256 by omega),a2,pe_or128 (show n/64%64<64 by omega),pe_and63 (show n%256<256 by omega),a3,pe_or128 (show n%64<64 by omega),t3,g]
     ·by_cases c5:65536≤n∧n≤1114111
      ·have e:utf8 (n:Int)=[UInt8.ofNat (240+n/262144),UInt8.ofNat (128+n/4096%64),UInt8.ofNat (128+n/64%64),UInt8.ofNat (128+n%64)]:=by unfold utf8;rw[if_neg (by omega),if_neg (by omega),if_neg (by omega),if_pos (by omega)];rfl
       rw[e];have a0:n/262144%256=n/262144:=by omega
       have a1:n/4096%256%64=n/4096%64:=by omega
       have a2:n/64%256%64=n/64%64:=by omega
       have a3:n%256%64=n%64:=by omega
       have g:=grow_bytes (h:=h) (bs:=[UInt8.ofNat (240+n/262144),UInt8.ofNat (128+n/4096%64),UInt8.ofNat (128+n/64%64),UInt8.ofNat (128+n%64)]) (by simp) (by simp);have t4:=four (show 240+n/262144<256 by omega) (show 128+n/4096%64<256 by omega) (show 128+n/64%64<256 by omega) (show 128+n%64<256 by omega);simp only[amS,bxS,show¬(n:Int)≤2047 by omega,show¬(n:Int)<55296 by omega,show(57343:Int)<n by omega,show¬(n:Int)≤65535 by omega,show(65535:Int)<n by omega,show(n:Int)≤1114111 by omega,pe_shr6,pe_shr12,pe_shr18,pe_cu8,a0,pe_or240 (show n/262144<16 by omega),pe_and63 (show n/4096%256<256 by omega),a1,pe_or128 (show n/4096%64<64 by omega),pe_and63 (show n/64%256<256 by omega),a2,pe_or128 (show n/64%64<64 by omega),pe_and63 (show n%256<256 by omega),a3,pe_or128 (show n%64<64 by omega),t4,g]
      ·have e:utf8 (n:Int)=[239,191,189]:=by unfold utf8;rw[if_neg (by omega),if_neg (by omega),if_neg (by omega),if_neg (by omega)]
       rw[e];have g:=grow_bytes (h:=h) (bs:=[239,191,189]) (by simp) (by simp);by_cases c6:n<65536
       ·simp only[amS,bxS,show¬(n:Int)≤2047 by omega,show¬(n:Int)<55296 by omega,show¬(57343:Int)<n by omega,show¬(65535:Int)<n by omega,bad,g]
       ·simp only[amS,bxS,show¬(n:Int)≤2047 by omega,show¬(n:Int)<55296 by omega,show(57343:Int)<n by omega,show¬(n:Int)≤65535 by omega,show(65535:Int)<n by omega,show¬(n:Int)≤1114111 by omega,bad,g]
   simp only[amS,bxS,show¬(n:Int)≤127 by omega,r106.call]
 ·have e:utf8 r=[239,191,189]:=by unfold utf8;rw[if_neg (by omega),if_neg (by omega),if_neg (by omega),if_neg (by omega)]
  have g:=grow_bytes (h:=h) (bs:=[239,191,189]) (by simp) (by simp);have r106:Ret cx 145 [.slnil,.int .i32 r] h (.msl h.length 0 (utf8 r).length 1) (h++[.cells ((utf8 r).map byV)]):=by rw[e,ret_iff,t145_eq,t145];simp only[amS,bxS,pe_cu32,show¬(r%4294967296)≤2047 by omega,show¬(r%4294967296)<55296 by omega,show(57343:Int)<r%4294967296 by omega,show¬(r%4294967296)≤65535 by omega,show(65535:Int)<r%4294967296 by omega,show¬(r%4294967296)≤1114111 by omega,bad,g]
  simp only[amS,bxS,show¬(r%4294967296)≤127 by omega,r106.call]
theorem utf8_len (r:Int):(utf8 r).length≤4:=by unfold utf8;split<;>(try split)<;>(try split)<;>(try split)<;>simp
end Go.Am
end
section
namespace Go.Am
open Go
set_option maxRecDepth 100000
theorem prev_idx {l:List Int} {bf:Int} (hb:bf≠0→bf∈l):∃i,i≤l.length∧(bf=0→i=l.length)∧(bf≠0→idxFrom (λy=>decide (bf=y)) 0 l=(i:Int))∧prevOf l bf=if i=0 then none else l[i-1]?:=by
 by_cases h0:bf=0
 ·refine⟨l.length,Nat.le_refl _,λ_=>rfl,λh=>absurd h0 h,?_⟩;unfold prevOf;rw[if_pos h0,List.getLast?_eq_getElem?];split
  ·rename_i h;rw[List.getElem?_eq_none (by omega)]
  ·rfl
 ·obtain⟨k,k1,k2,k3,k4,k5⟩:=idx_mem (hb h0);refine⟨k,by omega,λh=>absurd h h0,λ_=>k2,?_⟩;unfold prevOf;rw[if_neg h0,k4,List.getLast?_eq_getElem?,List.length_take,Nat.min_eq_left (by omega)];split
  ·rename_i h;subst h;simp
  ·rw[List.getElem?_take];rw[if_pos (by omega)]
theorem pe_sadd {s u:Bytes} (h:s.length+u.length≤2000000000):peval (.str .add) [.str s,.str u]=some (.str (s++u)):=by
 have:s.length+u.length≤9223372036854775807:=by omega
 simp[peval,strOp,this]
theorem rows_flat:∀s:Bytes,(rowsOf s).flatten=s.map byV
 |[]=>rfl
 |c::s=>by show[byV c]++(rowsOf s).flatten=_;rw[rows_flat s];rfl
section
variable {h h':AHeap} {bi a:Nat} {o c t:AVal} {G G' F:Nat→Prop} {b:BS} {x:Int} {m:Nat}
variable {nm:Bytes} {av:AVal} {l:List Attr} {r:List AVal} {sp p:Int}
theorem leaf_ok {k d:Int} {s:Bytes} (ok:BOk b) (rm:Room b (m+1)) (hk:k=5∨k=6) (hd:b.a.has d∧(b.a.nd d).kind=1) (hs:s.length≤100000):BOk {b with a:=b.a.add {kind:=k,doc:=d,data:=s}}∧Room {b with a:=b.a.add {kind:=k,doc:=d,data:=s}} m:=
 ⟨ok.setA (ok_addC ok.ok (by unfold Ar.len;omega) hd hk) le_add,rm.grow (k:=1) (grow_add (Nat.zero_le _) hs)⟩
theorem f13b (w:BX h bi a o c t G b) (ok:BOk b) (rm:Room b (m+5)) (r:Int) (hr: -2147483648≤r∧r≤2147483647):
  ∃h' G',Ret cx 36 [.ptr (some (bi,0)),.int .i32 r] h (.tuple []) h'∧BX h' bi a o c t G' (b.char r)∧Ext h (own bi G) h' (own bi G'):=by
 obtain⟨u1,r1⟩:=f32b w ok rm 0;obtain⟨hp,hbf⟩:=place_ok ok (t:=0) (.inl rfl);have w1:=w.app (u:=u1);unfold BS.char;generalize(b.place 0).1=p at*;generalize(b.place 0).2=bf at*;obtain⟨K,V,u2,r2,hK,_⟩:=f33b w1 ok rm p;have w2:=w1.app (u:=u2);have x2:Ext h (own bi G) (h++u1++u2) (own bi G):=w.ext_app.trans w1.ext_app;unfold BS.charAt;by_cases hk:(b.a.nd p).kind=4∨(b.a.nd p).kind=2;rotate_left
 ·refine⟨_,G,?_,?_,x2⟩
  ·have k4:¬(b.a.nd p).kind=4:=λe=>hk (.inl e);have k2:¬(b.a.nd p).kind=2:=λe=>hk (.inr e);rw[ret_iff,t36_eq,t36];simp only[amS,bxS,(f31b w).call,r1.call,r2.call,ne_eq,k4,k2]
  ·rw[if_neg hk];exact w2
 rw[if_pos hk];obtain⟨i,hi,hi0,hi1,hpv⟩:=prev_idx (l:=(b.a.nd p).kids) (bf:=bf) (λh=>by have:=hbf h;have h2:=(ok.ok.par bf this.1 (by rw[this.2];have:=hp.1;omega)).2;rwa [this.2] at h2);rw[hpv];have hkl:=rm.lim.kids ok.ok p;have ri:=f34w (h:=h++u1++u2) (x:=bf) hK.ints hkl;have r35:=f35b (h:=h++u1++u2) r hr;have hul:=utf8_len r;generalize hs:utf8 r=s at*;have f3:hfrz (h++u1++u2++[.cells (s.map byV)]) (.msl (h++u1++u2).length 0 s.length 1)=some (h++u1++u2++[.dead],.sl 1 (rowsOf s)):=by have hfl:=rows_flat s;have:=hfrz_rows (h:=h++u1++u2++[.cells (s.map byV)]) (id:=(h++u1++u2).length) (z:=1) (rows:=rowsOf s) (by intro q hq;obtain⟨y,_,rfl⟩:=List.mem_map.1 hq;rfl) (by rw[hfl];simp);rw[show(rowsOf s).length=s.length by simp[rowsOf]] at this;rw[this];congr 2;rw[List.set_append_right _ _ (Nat.le_refl _),Nat.sub_self];rfl
 have b3:peval .b2s [.sl 1 (rowsOf s)]=some (.str s):=by simp[peval,textOf,bytes_rows]
 have w3:=w2.app (u:=[.dead]);have x3:Ext h (own bi G) (h++u1++u2++[.dead]) (own bi G):=x2.trans w2.ext_app;have hdoc:=ok.ok.doc p hp;have new:∀h3,(∃u,h3=h++u1++u2++[.dead]++u)→∃h' h4 G',Ret cx 86 [.ptr (some (a,0)),.int .i64 (b.a.nd p).doc,.str s] h3 (.tuple [.int .i64 (b.a.len+1),.int .i64 0]) h4∧Ret cx 82 [.ptr (some (bi,0)),.int .i64 (b.a.len+1),.int .i64 p,.int .i64 bf] h4 (.tuple []) h'∧BX h' bi a o c t G' {b with a:=(b.a.add {kind:=5,doc:=(b.a.nd p).doc,data:=s}).bput (b.a.len+1) p bf}∧Ext h (own bi G) h' (own bi G'):=by
  rintro _ ⟨u,rfl⟩;have w4:=w3.app (u:=u);obtain⟨h4,G4,⟨r4,_⟩,w5,x5⟩:=w4.step (A':=b.a.add (leafPN 5 (b.a.nd p).doc s).x) (R:=λh'=>Ret cx 86 [.ptr (some (a,0)),.int .i64 (b.a.nd p).doc,.str s] (h++u1++u2++[.dead]++u) (.tuple [.int .i64 (b.a.len+1),.int .i64 0]) h'∧True) (λn m ps wa=>by obtain⟨h',r,wp,o1,l1⟩:=f37w (s:=s) wa rm.lim (by have:=rm.n;unfold Ar.len;omega) hdoc;exact⟨h',_,_,_,⟨r,trivial⟩,wp,wa.ext_add rfl o1 l1⟩)
  obtain⟨ok5,rm5⟩:=leaf_ok (m:=m) (k:=5) (s:=s) ok (rm.le (by omega)) (.inl rfl) hdoc (by omega);obtain⟨h',G',r6,w6,x6⟩:=f38b (x:=b.a.len+1) (p:=p) (bf:=bf) w5 ok5 rm5;exact⟨h',h4,G',r4,r6,w6,(x3.trans w3.ext_app).trans (x5.trans x6)⟩
 have kl:=(hK.ints (h:=h++u1++u2)).len;have hnl:i≤1000000000:=by omega
 by_cases hz:i=0
 ·subst hz;obtain⟨h',h4,G',r4,r6,w6,x6⟩:=new (h++u1++u2++[.dead]) ⟨[],by simp⟩;simp only[↓reduceIte];refine⟨h',G',?_,w6,x6⟩;rw[ret_iff,t36_eq,t36];rcases hk with hk|hk<;>by_cases h0:bf=0
  all_goals first|(rw[←hi0 h0] at kl;simp only[amS,bxS,(f31b w).call,r1.call,r2.call,hk,ne_eq,eq_self,show¬(2:Int)=4 by decide,kl,eq_true h0,r35.call,f3,b3,show¬(0:Int)<((0:Nat):Int) by decide,w3.l0,r4.call,eq_self,r6.call];done)|(rw[hi1 h0] at ri;simp only[amS,bxS,(f31b w).call,r1.call,r2.call,hk,ne_eq,eq_self,show¬(2:Int)=4 by decide,kl,h0,r35.call,f3,b3,show¬(0:Int)<((0:Nat):Int) by decide,w3.l0,r4.call,eq_self,r6.call,ri.call])
 ·obtain⟨j,rfl⟩:∃j,i=j+1:=⟨i-1,by omega⟩;have hj:j<(b.a.nd p).kids.length:=by omega
  rw[if_neg hz,Nat.add_sub_cancel,List.getElem?_eq_getElem hj];simp only
  have ht:=ok.ok.kid p hp _ (List.getElem_mem hj);obtain⟨q,e1,e2⟩:=(hK.ints (h:=h++u1++u2++[.dead])).at_ j hj;obtain⟨K7,V7,u7,r7,_,_⟩:=f33b w3 ok rm (b.a.nd p).kids[j];have w7:=w3.app (u:=u7);obtain⟨q',e1',e2'⟩:=(hK.ints (h:=h++u1++u2++[.dead]++u7)).at_ j hj;rw[e1,Option.some.injEq] at e1';subst e1';have sb:peval (.int .sub) [.int .i64 ((j+1:Nat):Int),I 1]=some (.int .i64 (j:Int)):=by have:=pe_dec (n:=j+1) (by omega) (by omega);simpa using this
  generalize hte:(b.a.nd p).kids[j]=te at*;by_cases k5:(b.a.nd te).kind=5
  ·rw[if_pos k5];have hdl:=rm.data te;obtain⟨h8,G8,⟨r8,_⟩,w8,x8⟩:=w7.step (A':=b.a.setData te ((b.a.nd te).data++s)) (R:=λh'=>Ret cx 85 [.ptr (some (a,0)),.int .i64 te,.str ((b.a.nd te).data++s)] (h++u1++u2++[.dead]++u7) (.int .i64 0) h'∧True) (λn m ps wa=>by obtain⟨h',ps',r,wp,xp⟩:=f36w (s:=(b.a.nd te).data++s) wa rm.lim ht.1 k5;exact⟨h',n,m,ps',⟨r,trivial⟩,wp,xp⟩)
   refine⟨h8,G8,?_,w8,(x3.trans w3.ext_app).trans x8⟩;rw[ret_iff,t36_eq,t36];rcases hk with hk|hk<;>by_cases h0:bf=0
   all_goals first|(rw[←hi0 h0] at kl;simp only[amS,bxS,(f31b w).call,r1.call,r2.call,hk,ne_eq,eq_self,show¬(2:Int)=4 by decide,kl,eq_true h0,r35.call,f3,b3,show(0:Int)<((j+1:Nat):Int) by omega,sb,e1,e2,r7.call,k5,w7.l0,e2',pe_sadd (show(b.a.nd te).data.length+s.length≤2000000000 by omega),eq_self,r8.call];done)|(rw[hi1 h0] at ri;simp only[amS,bxS,(f31b w).call,r1.call,r2.call,hk,ne_eq,eq_self,show¬(2:Int)=4 by decide,kl,h0,r35.call,f3,b3,show(0:Int)<((j+1:Nat):Int) by omega,sb,e1,e2,r7.call,k5,w7.l0,e2',pe_sadd (show(b.a.nd te).data.length+s.length≤2000000000 by omega),eq_self,r8.call,ri.call])
  ·rw[if_neg k5];obtain⟨h',h4,G',r4,r6,w6,x6⟩:=new _ ⟨u7,rfl⟩;refine⟨h',G',?_,w6,x6⟩;rw[ret_iff,t36_eq,t36];rcases hk with hk|hk<;>by_cases h0:bf=0
   all_goals first|(rw[←hi0 h0] at kl;simp only[amS,bxS,(f31b w).call,r1.call,r2.call,hk,ne_eq,eq_self,show¬(2:Int)=4 by decide,kl,eq_true h0,r35.call,f3,b3,show(0:Int)<((j+1:Nat):Int) by omega,sb,e1,e2,r7.call,k5,w7.l0,r4.call,eq_self,r6.call];done)|(rw[hi1 h0] at ri;simp only[amS,bxS,(f31b w).call,r1.call,r2.call,hk,ne_eq,eq_self,show¬(2:Int)=4 by decide,kl,h0,r35.call,f3,b3,show(0:Int)<((j+1:Nat):Int) by omega,sb,e1,e2,r7.call,k5,w7.l0,r4.call,eq_self,r6.call,ri.call])
theorem comment_at {s:Bytes} {p bf x:Int} {h0 h1:AHeap} (hstart:(¬x=0∧p=x∧bf=0∧h1=h0)∨(x=0∧Ret cx 41 [.ptr (some (bi,0)),.int .i64 0] h0 (.tuple [.int .i64 p,.int .i64 bf]) h1))
  (w0:BX h0 bi a o c t G b) (x0:Ext h0 (own bi G) h1 (own bi G)) (w:BX h1 bi a o c t G b) (ok:BOk b) (rm:Room b (m+1)) (hs:s.length≤100000):
  ∃h' G',Ret cx 34 [.ptr (some (bi,0)),.str s,.int .i64 x] h0 (.tuple []) h'∧BX h' bi a o c t G' {b with a:=BS.commentAt b.a s p bf}∧Ext h0 (own bi G) h' (own bi G'):=by
 obtain⟨K,V,u2,r2,hK,_⟩:=f33b w ok rm p;have w2:=w.app (u:=u2);unfold BS.commentAt;by_cases hk:isPar (b.a.nd p).kind
 ·rw[if_pos hk];have hp:b.a.has p:=by
   by_cases hp:b.a.has p
   ·exact hp
   ·rw[nd_no hp] at hk;unfold isPar at hk;simp at hk
  have hdoc:=ok.ok.doc p hp;obtain⟨h4,G4,⟨r4,_⟩,w5,x5⟩:=w2.step (A':=b.a.add (leafPN 6 (b.a.nd p).doc s).x) (R:=λh'=>Ret cx 81 [.ptr (some (a,0)),.int .i64 (b.a.nd p).doc,.str s] (h1++u2) (.tuple [.int .i64 (b.a.len+1),.int .i64 0]) h'∧True) (λn m ps wa=>by obtain⟨h',r,wp,o1,l1⟩:=f135w (s:=s) wa rm.lim (by have:=rm.n;unfold Ar.len;omega) hdoc;exact⟨h',_,_,_,⟨r,trivial⟩,wp,wa.ext_add rfl o1 l1⟩)
  obtain⟨ok5,rm5⟩:=leaf_ok (m:=m) (k:=6) (s:=s) ok rm (.inr rfl) hdoc hs;obtain⟨h',G',r6,w6,x6⟩:=f38b (x:=b.a.len+1) (p:=p) (bf:=bf) w5 ok5 rm5;refine⟨h',G',?_,w6,(x0.trans w.ext_app).trans (x5.trans x6)⟩;rw[ret_iff,t34_eq,t34];rcases hstart with⟨hx,rfl,rfl,rfl⟩|⟨hx,r1⟩
  ·rcases hk with hk|hk|hk<;>simp only[amS,bxS,(f31b w0).call,r2.call,hk,ne_eq,eq_self,show¬(2:Int)=1 by decide,show¬(4:Int)=1 by decide,show¬(4:Int)=2 by decide,w2.l0,r4.call,r6.call,hx]
  ·rcases hk with hk|hk|hk<;>simp only[amS,bxS,(f31b w0).call,r2.call,hk,ne_eq,eq_self,show¬(2:Int)=1 by decide,show¬(4:Int)=1 by decide,show¬(4:Int)=2 by decide,w2.l0,r4.call,r6.call,eq_true hx,r1.call]
 ·rw[if_neg hk];refine⟨_,G,?_,w2,x0.trans w.ext_app⟩;unfold isPar at hk;have k1:¬(b.a.nd p).kind=1:=by omega
  have k2:¬(b.a.nd p).kind=2:=by omega
  have k4:¬(b.a.nd p).kind=4:=by omega
  rw[ret_iff,t34_eq,t34];rcases hstart with⟨hx,rfl,rfl,rfl⟩|⟨hx,r1⟩
  ·simp only[amS,bxS,(f31b w0).call,r2.call,ne_eq,k1,k2,k4,hx]
  ·simp only[amS,bxS,(f31b w0).call,r2.call,ne_eq,k1,k2,k4,eq_true hx,r1.call]
theorem f54b (w:BX h bi a o c t G b) (ok:BOk b) (rm:Room b (m+1)) (s:Bytes) (hs:s.length≤100000) (x:Int):
  ∃h' G',Ret cx 34 [.ptr (some (bi,0)),.str s,.int .i64 x] h (.tuple []) h'∧BX h' bi a o c t G' (b.comment s x)∧Ext h (own bi G) h' (own bi G'):=by
 unfold BS.comment;by_cases h0:x=0
 ·rw[if_pos h0];obtain⟨u1,r1⟩:=f32b w ok rm 0;exact comment_at (p:=(b.place 0).1) (bf:=(b.place 0).2) (.inr ⟨h0,r1⟩) w w.ext_app (w.app (u:=u1)) ok rm hs
 ·rw[if_neg h0];exact comment_at (p:=x) (bf:=0) (.inl ⟨h0,rfl,rfl,rfl⟩) w .refl w ok rm hs
theorem f55b (w:BX h bi a o c t G b) (ok:BOk b) (rm:Room b (m+4)) (hr:TokR nm av r) (hv:IsAttrs l av) (hl:SmallA l) (hn:nm.length≤1000) (st:Int):
  ∃h' o' G',Ret cx 92 [.ptr (some (bi,0)),.agg r,.int .i64 st] h (.tuple []) h'∧BX h' bi a o' c t G' (b.rawText nm l st)∧Ext h (own bi G) h' (own bi G'):=by
 obtain⟨h1,o1,G1,r1,w1,x1⟩:=f11b w ok rm hr hv hl hn;have s1:=w1.st (k:=18) (v:= .int .i64 st) rfl rfl;have w2:BX (put h1 bi 18 (.int .i64 st)) bi a o1 c t G1 {b.insB nm l 1 with sw:=st}:=w1.put rfl rfl w1.o w1.t;have s2:=w2.st (k:=5) (v:= .int .i64 (b.insB nm l 1).mode) rfl rfl;have w3:BX (put (put h1 bi 18 (.int .i64 st)) bi 5 (.int .i64 (b.insB nm l 1).mode)) bi a o1 c t G1 {b.insB nm l 1 with sw:=st,orig:=(b.insB nm l 1).mode}:=w2.put rfl rfl w1.o w1.t;have s3:=w3.st (k:=4) (v:=I 8) rfl rfl;have w4:BX (put (put (put h1 bi 18 (.int .i64 st)) bi 5 (.int .i64 (b.insB nm l 1).mode)) bi 4 (I 8)) bi a o1 c t G1 (b.rawText nm l st):=w3.put rfl rfl w1.o w1.t;refine⟨_,o1,G1,?_,w4,((x1.trans put_ext).trans put_ext).trans put_ext⟩;obtain⟨c0,c2,c3,c4,c5,c6,c7,c9,c10,c11,rfl⟩:=hr;rw[ret_iff,t92_eq,t92];simp only[amS,(f31b w).call,r1.call,w1.l4,s1,s2,s3]
theorem f56b (w:BX h bi a o c t G b) (rm:Room b m):
  ∃h' o',Ret cx 93 [.ptr (some (bi,0))] h (.tuple []) h'∧BX h' bi a o' c t G b.closeP∧Ext h (own bi G) h' (own bi G):=by
 have ho:=rm.opn;have r1:=f136 w.sA (show b.opn.length≤1000000000 by omega) 3 (v:= .sl 1 ([wP].map strRow)) (ws:=[wP]) isStrs_of (by decide);have em:peval (.mksl 1) [S [112]]=some (.sl 1 ([wP].map strRow)):=mk_strs (ws:=[wP]) rfl (by decide);unfold BS.closeP;by_cases hs:inSc (isOne [wP]) (ends 3) b.opn.reverse=true
 ·rw[if_pos hs];rw[hs] at r1;obtain⟨u1,r2,hu1⟩:=f137 w.sO (by omega) wP;have w1:=w.putO hu1;have hle:=pops_le (b:=unimplied wP) (a:=never) (l:=b.opn);obtain⟨u2,r3,hu2⟩:=f66 w1.sO (by simp only;omega) (w:= .sl 1 ([wP].map strRow)) (ws:=[wP]) isStrs_of (by decide);refine⟨_,u2,?_,w1.putO hu2,put_ext.trans put_ext⟩;rw[ret_iff,t93_eq,t93];simp only[amS,(f31b w).call,em,r1.call,r2.call,r3.call]
 ·rw[if_neg hs];rw[show inSc (isOne [wP]) (ends 3) b.opn.reverse=false by simpa using hs] at r1;refine⟨h,o,?_,w,.refl⟩;rw[ret_iff,t93_eq,t93];simp only[amS,(f31b w).call,em,r1.call]
end
end Go.Am
end
section
namespace Go.Am
open Go
set_option maxRecDepth 100000
section
variable {h h':AHeap} {bi a:Nat} {o c t:AVal} {G G' F:Nat→Prop} {b:BS} {x:Int} {m:Nat}
variable {nm:Bytes} {av:AVal} {l:List Attr} {r:List AVal} {sp p:Int}
theorem rev_take {α:Type} {l:List α} {n:Nat} (hn:n<l.length):(l.take (n+1)).reverse=l[n]::(l.take n).reverse:=by rw[List.take_succ_eq_append_getElem hn,List.reverse_append];rfl
theorem f58b (w:BX h bi a o c t G b) (rm:Room b m) (nm:Bytes):
  ∃h' o',Ret cx 31 [.ptr (some (bi,0)),.str nm] h (.tuple []) h'∧BX h' bi a o' c t G (b.anyEnd nm)∧Ext h (own bi G) h' (own bi G):=by
 have ho:=rm.opn;have hev:Ev cx 31 [.ptr (some (bi,0)),.str nm] h λr h'=>r= .tuple []∧∃o',BX h' bi a o' c t G (b.anyEnd nm)∧Ext h (own bi G) h' (own bi G):=by
  unfold Ev;rw[t31_eq,t31];simp only[amS,bxS,(f31b w).call,(f104 w.sA).call,pe_subI (show -9223372036854775808≤(b.opn.length:Int)-1 by omega) (show(b.opn.length:Int)-1<9223372036854775808 by omega)];refine W_loop_st (λn:Nat=>[.int .i64 ((n:Int)-1)]) (λn h1=>n≤b.opn.length∧(b.opn.reverse.find? λi=>isOne [nm] i||special i)=((b.opn.take n).reverse.find? λi=>isOne [nm] i||special i)∧h1=h) (λn=>n) b.opn.length rfl ⟨Nat.le_refl _,by rw[List.take_length],rfl⟩ ?_;rintro n h1 ⟨hn,ha,rfl⟩
  cases n with
  |zero=>
   have e:b.anyEnd nm=b:=by unfold BS.anyEnd;rw[ha];rfl
   simp only[amS,bxS,show¬(0:Int)≤((0:Nat):Int)-1 by omega];exact⟨_,rfl,rfl,o,by rw[e];exact w,.refl⟩
  |succ n=>
   have hlt:n<b.opn.length:=by omega
   have i1:((n+1:Nat):Int)-1=(n:Int):=by omega
   have r1:=f113 w.sA (n:Int);rw[itemAt_lt hlt] at r1;have em:peval (.mksl 1) [.str nm]=some (.sl 1 ([nm].map strRow)):=mk_strs (ws:=[nm]) rfl (by simp);have r2:=f40b (ws:=[nm]) isStrs_of (by simp) b.opn[n] h1;rw[rev_take hlt,List.find?_cons] at ha;generalize hi:b.opn[n]=i at*;rw[Item.row] at r2;simp only[amS,bxS,itS,i1,show(0:Int)≤(n:Int) by omega,r1.call,em];have r2':Ret cx 72 [.agg i.row,.sl 1 ([nm].map strRow)] h1 (.bool (isOne [nm] i)) h1:=r2;rw[r2'.call,W_cnd_iff,cndW_iff];refine⟨λh2=>?_,λh2=>?_⟩
   ·obtain⟨u1,r3,hu1⟩:=f137 w.sO (by omega) nm;have w1:=w.putO hu1;have hle:=pops_le (b:=unimplied nm) (a:=never) (l:=b.opn);obtain⟨u2,r4,hu2⟩:=f120 w1.sO (by simp only;omega) i.node;simp only[amS,r3.call,r4.call];refine⟨_,rfl,rfl,u2,?_,put_ext.trans put_ext⟩;have e:b.anyEnd nm={b with opn:=popNode i.node (pops (unimplied nm) never b.opn)}:=by unfold BS.anyEnd;rw[ha];simp only[h2,Bool.true_or,if_true]
    rw[e];exact w1.putO hu2
   ·simp only[h2,Bool.false_or] at ha;simp only[(f139 i.space i.name).pcall rfl rfl];rw[W_cnd_iff,cndW_iff];refine⟨λh3=>?_,λh3=>?_⟩
    ·have h3':special i=true:=h3;rw[h3'] at ha;have e:b.anyEnd nm=b:=by unfold BS.anyEnd;rw[ha];simp only[h2,Bool.false_eq_true,if_false]
     simp only[amS];exact⟨_,rfl,rfl,o,by rw[e];exact w,.refl⟩
    ·have h3':special i=false:=h3;rw[h3'] at ha;simp only[amS,pe_subI (show -9223372036854775808≤(n:Int)-1 by omega) (show(n:Int)-1<9223372036854775808 by omega)];exact LoopPost.next n rfl ⟨by omega,ha,rfl⟩ (by omega)
 obtain⟨r,h',hr,rfl,o',w',x'⟩:=hev.ret;exact⟨h',o',hr,w',x'⟩
theorem f230b (w:BX h bi a o c t G b) (rm:Room b m) {k:Nat} (hk:k≤b.opn.length):Ret cx 171 [.ptr (some (bi,0)),.int .i64 (k:Int)] h (.int .i64 (BS.selMode (b.opn.take k))) h:=by
 have ho:=rm.opn;rw[ret_iff,t171_eq,t171];simp only[amS,pe_subI (show -9223372036854775808≤(k:Int)-1 by omega) (show(k:Int)-1<9223372036854775808 by omega)];refine W_loop_st (λn:Nat=>[I 0,.int .i64 ((n:Int)-1)]) (λn h1=>n≤k∧((b.opn.take k).reverse.find? λi=>isOne [wTemplate] i||isOne [wTable] i)=((b.opn.take n).reverse.find? λi=>isOne [wTemplate] i||isOne [wTable] i)∧h1=h) (λn=>n) k rfl ⟨Nat.le_refl _,rfl,rfl⟩ ?_;rintro n h1 ⟨hn,ha,rfl⟩
 cases n with
 |zero=>simp only[amS,bxS,show¬(0:Int)≤((0:Nat):Int)-1 by omega];unfold BS.selMode;rw[ha];rfl
 |succ n=>
  have hlt:n<b.opn.length:=by omega
  have i1:((n+1:Nat):Int)-1=(n:Int):=by omega
  have r1:=f113 w.sA (n:Int);rw[itemAt_lt hlt] at r1;have em1:peval (.mksl 1) [S wTemplate]=some (.sl 1 ([wTemplate].map strRow)):=mk_strs (ws:=[wTemplate]) rfl (by decide);have em2:peval (.mksl 1) [S wTable]=some (.sl 1 ([wTable].map strRow)):=mk_strs (ws:=[wTable]) rfl (by decide);have r2:=f40b (ws:=[wTemplate]) isStrs_of (by decide) b.opn[n] h1;have r3:=f40b (ws:=[wTable]) isStrs_of (by decide) b.opn[n] h1;rw[rev_take hlt,List.find?_cons] at ha;simp only[amS,bxS,i1,show(0:Int)≤(n:Int) by omega,r1.call,em1,r2.call,em2,r3.call,pe_subI (show -9223372036854775808≤(n:Int)-1 by omega) (show(n:Int)-1<9223372036854775808 by omega)];rw[cndW_iff];refine⟨λh2=>?_,λh2=>?_⟩
  ·simp only[h2,Bool.true_or] at ha;unfold BS.selMode;rw[ha];simp only[h2,if_true]
  ·simp only[h2,Bool.false_or] at ha;rw[cndW_iff];refine⟨λh3=>?_,λh3=>?_⟩
   ·rw[h3] at ha;unfold BS.selMode;rw[ha];simp only[h2,Bool.false_eq_true,if_false]
   ·rw[h3] at ha;exact LoopPost.next n rfl ⟨by omega,ha,rfl⟩ (by omega)
def mrow (r:Bytes×Int):List AVal:=[.str r.1,.int .i64 r.2]
theorem pe_mksl_aggs {z:Nat} {rows:List (List AVal)} {args:List AVal} (e:args=rows.map AVal.agg) (hz:∀r∈rows,r.length=z) (hl:rows.length*z≤16777216):peval (.mksl z) args=some (.sl z rows):=by
 subst e;have e1:(rows.map AVal.agg).all (λa=>a.cells.length==z)=true:=by simp[AVal.cells];exact hz
 have e2:(rows.map AVal.agg).map (·.cells)=rows:=by rw[List.map_map];exact List.map_id _
 rw[pe_mksl,e1,e2];simp[hl]
theorem mk_rowsM {args:List AVal} (e:args=(rowsM.map mrow).map AVal.agg):peval (.mksl 2) args=some (.sl 2 (rowsM.map mrow)):=pe_mksl_aggs e (λr hr=>by obtain⟨x,_,rfl⟩:=List.mem_map.1 hr;rfl) (by decide)
theorem f229b:Ret cx 170 [] h (.sl 2 (rowsM.map mrow)) h:=by rw[ret_iff,t170_eq,t170];simp only[amS,Nat.reduceLeDiff,↓reduceIte,fillAt,bxS];exact(congrArg (λz=>opW z λv=>[v]=[AVal.sl 2 (rowsM.map mrow)]) (mk_rowsM rfl)).mpr (by rw[opW_some])
theorem isOne_one {s:Bytes} {i:Item}:isOne [s] i=decide (i.space=1∧i.name=s):=by unfold isOne;simp
theorem modeOf_eq {i:Item} {k:Nat}:b.modeOf i k=match rowsM.find? λr=>isOne [r.1] i with
  |some r=>some r.2
  |none=>if isOne [wSelect] i then some (BS.selMode (b.opn.take k)) else if isOne [wTd,wTh] i&&decide (0<k) then some 15 else if isOne [wTemplate] i then some (b.tm.getLast?.getD 7) else if isOne [wHead] i&&decide (0<k) then some 4 else if isOne [wHtm] i then some (if b.head=0 then 3 else 6) else if k=0 then some 7 else none:=by
 unfold BS.modeOf;by_cases hs:i.space=1
 ·rw[if_pos hs];have e:(λr:Bytes×Int=>isOne [r.1] i)=λr=>decide (r.1=i.name):=by funext r;rw[isOne_one,decide_eq_decide];exact⟨λh=>h.2.symm,λh=>⟨hs,h.symm⟩⟩
  rw[e]
  cases hf:rowsM.find? λr=>decide (r.1=i.name) with
  |some r=>rfl
  |none=>simp only[isOne,hs,true_and,List.mem_cons,List.not_mem_nil,or_false,Bool.and_eq_true,decide_eq_true_eq]
 ·rw[if_neg hs];have e:(λr:Bytes×Int=>isOne [r.1] i)=λ_=>false:=by funext r;rw[isOne_one,decide_eq_false (λh=>hs h.1)]
  rw[e];have e2:rowsM.find? (λ_=>false)=none:=by decide
  rw[e2];simp only[isOne,hs,false_and,decide_false,Bool.false_eq_true,if_false,Bool.false_and]
theorem f140b (w:BX h bi a o c t G b) (rm:Room b m) (i:Item) {k:Nat} (hk:k≤b.opn.length):Ret cx 127 [.ptr (some (bi,0)),.agg i.row,.int .i64 (k:Int)] h (.tuple [.int .i64 ((b.modeOf i k).getD 7),.bool (b.modeOf i k).isSome]) h:=by
 have ho:=rm.opn;have htm:=rm.tm;have hvr:IsSl 2 (rowsM.map mrow) (.sl 2 (rowsM.map mrow)):= .mk;have fi:=λws hw=>f40b (ws:=ws) isStrs_of hw i h;rw[modeOf_eq,ret_iff,t127_eq,t127];have hlen:rowsM.length=9:=rfl;have lv:=hvr.lenM;rw[hlen] at lv;simp only[amS,↓reduceIte,itS,f229b.call,lv];refine W_loop_st (λn:Nat=>[I 0,ff,.int .i64 (n:Int)]) (λn h1=>n≤9∧(rowsM.find? λr=>isOne [r.1] i)=((rowsM.drop n).find? λr=>isOne [r.1] i)∧h1=h) (λn=>9 -n) 0 rfl ⟨Nat.zero_le _,rfl,rfl⟩ ?_;rintro n h1 ⟨hn,ha,rfl⟩;rcases Nat.lt_or_ge n 9 with hlt|hge
 ·have hlt':n<rowsM.length:=hlt;have em:peval (.mksl 1) [.str rowsM[n].1]=some (.sl 1 ([rowsM[n].1].map strRow)):=mk_strs (ws:=[rowsM[n].1]) rfl (by simp);rw[List.drop_eq_getElem_cons hlt',List.find?_cons] at ha;simp only[amS,Nat.reduceLeDiff,↓reduceIte,bxS,show(n:Int)<((9:Nat):Int) by omega,hvr.eaddrM hlt',mrow,em,(fi [rowsM[n].1] (by simp)).call,pe_inc (show n<9223372036854775807 by omega)];rw[cndW_iff];refine⟨λh2=>?_,λh2=>?_⟩
  ·rw[h2] at ha;rw[ha];simp
  ·rw[h2] at ha;exact LoopPost.next (n+1) rfl ⟨hlt,ha,rfl⟩ (by omega)
 ·have h9:n=9:=by omega
  subst h9;have ha:(rowsM.find? λr=>isOne [r.1] i)=none:=ha;rw[ha];have e1:peval (.mksl 1) [S [115,101,108,101,99,116]]=some (.sl 1 ([wSelect].map strRow)):=mk_strs (ws:=[wSelect]) rfl (by decide);have e2:peval (.mksl 1) [S [116,100],S [116,104]]=some (.sl 1 ([wTd,wTh].map strRow)):=mk_strs (ws:=[wTd,wTh]) rfl (by decide);have e3:peval (.mksl 1) [S [116,101,109,112,108,97,116,101]]=some (.sl 1 ([wTemplate].map strRow)):=mk_strs (ws:=[wTemplate]) rfl (by decide);have e4:peval (.mksl 1) [S [104,101,97,100]]=some (.sl 1 ([wHead].map strRow)):=mk_strs (ws:=[wHead]) rfl (by decide);have e5:peval (.mksl 1) [S [104,116,109,108]]=some (.sl 1 ([wHtm].map strRow)):=mk_strs (ws:=[wHtm]) rfl (by decide);have q1:=fi [wSelect] (by decide);have q2:=fi [wTd,wTh] (by decide);have q3:=fi [wTemplate] (by decide);have q4:=fi [wHead] (by decide);have q5:=fi [wHtm] (by decide);have rs:=f230b w rm hk;have lt:=(IsInts.ints (h:=h1) w.t);have i9:¬((9:Nat):Int)<((9:Nat):Int):=by decide
  have l6:=w.l6;have htl:b.tm≠[]→∃p,peval (.int .sub) [.int .i64 (b.tm.length:Int),I 1]=some (.int .i64 ((b.tm.length-1:Nat):Int))∧peval (.eaddr 1) [t,.int .i64 ((b.tm.length-1:Nat):Int)]=some p∧hload h1 none p=some (.int .i64 (b.tm.getLast?.getD 7)):=by intro hne;have hpos:=List.length_pos_iff.2 hne;obtain⟨p,p1,p2⟩:=lt.at_ (b.tm.length-1) (by omega);refine⟨p,pe_dec hpos (by omega),p1,?_⟩;rw[p2,List.getLast?_eq_getElem?,List.getElem?_eq_getElem (by omega)];rfl
  by_cases g1:isOne [wSelect] i=true
  ·rw[g1] at q1;simp only[amS,↓reduceIte,bxS,i9,e1,q1.call,rs.call,g1,Option.getD_some,Option.isSome_some]
  ·have g1:isOne [wSelect] i=false:=by simpa using g1
   rw[g1] at q1;by_cases k0:0<k
   ·have k1:¬k=0:=by omega
    have k2:¬(k:Int)=0:=by omega
    have k3:(0:Int)<(k:Int):=by omega
    cases g2:isOne [wTd,wTh] i<;>rw[g2] at q2
    rotate_left
    ·simp only[amS,↓reduceIte,i9,e1,q1.call,e2,q2.call,k0,k3,g1,dtS]
    cases g3:isOne [wTemplate] i<;>rw[g3] at q3
    rotate_left
    ·by_cases ht:b.tm=[]
     ·simp only[amS,↓reduceIte,i9,e1,q1.call,e2,q2.call,e3,q3.call,k0,k3,g1,dtS,l6,lt.len,ht,Int.natCast_zero,Int.lt_irrefl,List.getLast?_nil]
     ·obtain⟨p,p1,p2,p3⟩:=htl ht;have ht':¬b.tm.length=0:=λe=>ht (List.length_eq_zero_iff.1 e);simp only[amS,↓reduceIte,i9,e1,q1.call,e2,q2.call,e3,q3.call,k0,k3,g1,dtS,l6,lt.len,show(0:Int)<(b.tm.length:Int) by omega,p1,p2,p3]
    cases g4:isOne [wHead] i<;>rw[g4] at q4
    rotate_left
    ·simp only[amS,↓reduceIte,i9,e1,q1.call,e2,q2.call,e3,q3.call,e4,q4.call,k0,k3,g1,dtS]
    all_goals cases g5:isOne [wHtm] i<;>rw[g5] at q5
    all_goals first
     |simp only[amS,↓reduceIte,i9,e1,q1.call,e2,q2.call,e3,q3.call,e4,q4.call,e5,q5.call,k0,k1,k2,k3,g1,dtS];done
     |by_cases hh:b.head=0
      ·simp only[amS,↓reduceIte,i9,e1,q1.call,e2,q2.call,e3,q3.call,e4,q4.call,e5,q5.call,k0,k2,k3,g1,dtS,w.l7,hh]
      ·simp only[amS,↓reduceIte,i9,e1,q1.call,e2,q2.call,e3,q3.call,e4,q4.call,e5,q5.call,k0,k2,k3,g1,dtS,w.l7,hh]
   ·have k1:k=0:=by omega
    subst k1;have k3:¬(0:Int)<((0:Nat):Int):=by decide
    have k2:((0:Nat):Int)=0:=rfl;by_cases g3:isOne [wTemplate] i=true
    ·rw[g3] at q3
     cases g2:isOne [wTd,wTh] i<;>rw[g2] at q2<;>by_cases ht:b.tm=[]
     all_goals first
      |simp only[amS,↓reduceIte,i9,e1,q1.call,e2,q2.call,e3,q3.call,k2,g1,g3,dtS,l6,lt.len,ht,Int.lt_irrefl,List.getLast?_nil,Nat.lt_irrefl];done
      |obtain⟨p,p1,p2,p3⟩:=htl ht
       have ht':¬b.tm.length=0:=λe=>ht (List.length_eq_zero_iff.1 e);simp only[amS,↓reduceIte,i9,e1,q1.call,e2,q2.call,e3,q3.call,k2,g1,g3,dtS,l6,lt.len,show(0:Int)<(b.tm.length:Int) by omega,p1,p2,p3,Nat.lt_irrefl]
    ·have g3:isOne [wTemplate] i=false:=by simpa using g3
     rw[g3] at q3
     cases g2:isOne [wTd,wTh] i<;>rw[g2] at q2<;>cases g4:isOne [wHead] i<;>rw[g4] at q4<;>cases g5:isOne [wHtm] i<;>rw[g5] at q5<;>by_cases hh:b.head=0
     all_goals simp only[amS,↓reduceIte,i9,e1,q1.call,e2,q2.call,e3,q3.call,e4,q4.call,e5,q5.call,k2,g1,g3,dtS,w.l7,hh,Nat.lt_irrefl]
end
end Go.Am
end
section
namespace Go.Am
open Go
set_option maxRecDepth 100000
section
variable {h h':AHeap} {bi a:Nat} {o c t:AVal} {G G' F:Nat→Prop} {b:BS} {x:Int} {m:Nat}
variable {nm:Bytes} {av:AVal} {l:List Attr} {r:List AVal} {sp p:Int}
theorem BX.lctx (w:BX h bi a o c t G b):hload h (some 4) (.ptr (some (bi,10)))=some (.agg b.ctx.row):=by simp only[hload,w.hb];rfl
theorem BX.putM (w:BX h bi a o c t G b) (v:Int):BX (Am.put h bi 4 (.int .i64 v)) bi a o c t G {b with mode:=v}:=w.put rfl rfl w.o w.t
theorem Room.mode {v:Int} (rm:Room b m):Room {b with mode:=v} m:=⟨rm.n,rm.at_,rm.data,rm.opn,rm.act,rm.tm,rm.ents,rm.nms⟩
theorem f59b (w:BX h bi a o c t G b) (rm:Room b m):
  ∃h',Ret cx 70 [.ptr (some (bi,0))] h (.tuple []) h'∧BX h' bi a o c t G b.reset∧Ext h (own bi G) h' (own bi G):=by
 have ho:=rm.opn;have hev:Ev cx 70 [.ptr (some (bi,0))] h λr h'=>r= .tuple []∧BX h' bi a o c t G b.reset∧Ext h (own bi G) h' (own bi G):=by
  unfold Ev;have w1:=w.putM 7;rw[t70_eq,t70];simp only[amS,bxS,(f31b w).call,w.st (k:=4) (v:=I 7) rfl rfl,(f104 w1.sA).call,pe_subI (show -9223372036854775808≤(b.opn.length:Int)-1 by omega) (show(b.opn.length:Int)-1<9223372036854775808 by omega)];refine W_loop_st (λn:Nat=>[.int .i64 ((n:Int)-1)]) (λn h1=>n≤b.opn.length∧b.resetF b.opn.length=b.resetF n∧h1=Am.put h bi 4 (I 7)) (λn=>n) b.opn.length rfl ⟨Nat.le_refl _,rfl,rfl⟩ ?_;rintro n h1 ⟨hn,ha,rfl⟩
  cases n with
  |zero=>
   have e:b.reset={b with mode:=7}:=by unfold BS.reset;rw[ha];rfl
   simp only[amS,bxS,show¬(0:Int)≤((0:Nat):Int)-1 by omega];exact⟨_,rfl,rfl,by rw[e];exact w1,put_ext⟩
  |succ n=>
   have hlt:n<b.opn.length:=by omega
   have i1:((n+1:Nat):Int)-1=(n:Int):=by omega
   have r1:=f113 w1.sA (n:Int);rw[show itemAt ({b with mode:=7}:BS).opn (n:Int)=b.opn[n] from itemAt_lt hlt] at r1;have r2:∀i:Item,Ret cx 127 [.ptr (some (bi,0)),.agg i.row,.int .i64 (n:Int)] (Am.put h bi 4 (I 7)) (.tuple [.int .i64 ((b.modeOf i n).getD 7),.bool (b.modeOf i n).isSome]) (Am.put h bi 4 (I 7)):=λi=>f140b w1 rm.mode i (k:=n) (by simp only;omega);have r3:=r2 (b.resetAt n);have hst:∀v,hstore (Am.put h bi 4 (I 7)) 1 (.ptr (some (bi,4))) (.int .i64 v)=some (Am.put (Am.put h bi 4 (I 7)) bi 4 (.int .i64 v)):=λv=>w1.st (k:=4) rfl rfl;have e:b.resetF (n+1)=match b.modeOf (b.resetAt n) n with|some m=>m|none=>b.resetF n:=rfl
   rw[e] at ha;have hlf:=w1.l9;have hlc:=w1.lctx;have hsub:=pe_subI (show -9223372036854775808≤(n:Int)-1 by omega) (show(n:Int)-1<9223372036854775808 by omega)
   cases hm:b.modeOf (b.resetAt n) n with
   |none=>
    rw[hm] at r3 ha;by_cases h0:n=0
    ·have h0':((n:Int)=0)=True:=eq_true (by omega)
     cases hf:b.frag with
     |true=>
      have er:b.resetAt n=b.ctx:=by unfold BS.resetAt;rw[if_pos ⟨h0,hf⟩]
      rw[er] at r3;rw[show({b with mode:=7}:BS).frag=true from hf] at hlf;simp only[amS,itS,i1,r1.call,hlf,hlc,r3.call,hst,dtS,show(0:Int)≤(n:Int) by omega,h0',hsub];exact LoopPost.next n rfl ⟨by omega,ha,rfl⟩ (by omega)
     |false=>
      have er:b.resetAt n=b.opn[n]:=by unfold BS.resetAt;rw[if_neg (by simp[hf]),List.getD_eq_getElem?_getD,List.getElem?_eq_getElem hlt];rfl
      rw[er] at r3;rw[show({b with mode:=7}:BS).frag=false from hf] at hlf;simp only[amS,itS,i1,r1.call,hlf,hlc,r3.call,hst,dtS,show(0:Int)≤(n:Int) by omega,h0',hsub];exact LoopPost.next n rfl ⟨by omega,ha,rfl⟩ (by omega)
    ·have er:b.resetAt n=b.opn[n]:=by unfold BS.resetAt;rw[if_neg (by simp[h0]),List.getD_eq_getElem?_getD,List.getElem?_eq_getElem hlt];rfl
     rw[er] at r3;have h0':¬(n:Int)=0:=by omega
     simp only[amS,itS,i1,r1.call,r3.call,hst,dtS,show(0:Int)≤(n:Int) by omega,h0',hsub];exact LoopPost.next n rfl ⟨by omega,ha,rfl⟩ (by omega)
   |some v=>
    rw[hm] at r3 ha;have e:b.reset={b with mode:=v}:=by unfold BS.reset;rw[ha]
    have w2:BX (Am.put (Am.put h bi 4 (I 7)) bi 4 (.int .i64 v)) bi a o c t G b.reset:=by rw[e];exact w1.putM v
    by_cases h0:n=0
    ·have h0':((n:Int)=0)=True:=eq_true (by omega)
     cases hf:b.frag with
     |true=>
      have er:b.resetAt n=b.ctx:=by unfold BS.resetAt;rw[if_pos ⟨h0,hf⟩]
      rw[er] at r3;rw[show({b with mode:=7}:BS).frag=true from hf] at hlf;simp only[amS,itS,i1,r1.call,hlf,hlc,r3.call,hst,dtS,show(0:Int)≤(n:Int) by omega,h0'];exact⟨_,rfl,rfl,w2,put_ext.trans put_ext⟩
     |false=>
      have er:b.resetAt n=b.opn[n]:=by unfold BS.resetAt;rw[if_neg (by simp[hf]),List.getD_eq_getElem?_getD,List.getElem?_eq_getElem hlt];rfl
      rw[er] at r3;rw[show({b with mode:=7}:BS).frag=false from hf] at hlf;simp only[amS,itS,i1,r1.call,hlf,hlc,r3.call,hst,dtS,show(0:Int)≤(n:Int) by omega,h0'];exact⟨_,rfl,rfl,w2,put_ext.trans put_ext⟩
    ·have er:b.resetAt n=b.opn[n]:=by unfold BS.resetAt;rw[if_neg (by simp[h0]),List.getD_eq_getElem?_getD,List.getElem?_eq_getElem hlt];rfl
     rw[er] at r3;have h0':¬(n:Int)=0:=by omega
     simp only[amS,itS,i1,r1.call,r3.call,hst,dtS,show(0:Int)≤(n:Int) by omega,h0'];exact⟨_,rfl,rfl,w2,put_ext.trans put_ext⟩
 obtain⟨r,h',hr,rfl,w',x'⟩:=hev.ret;exact⟨h',hr,w',x'⟩
theorem grow_attr {h0 u:AHeap} {V:AVal} {L:List Attr} {N:Nat} (hN:N=h0.length) (hV:AttrsAt (h0++u) V L) (hU:Up N V) (hb:L.length≤1000000000) (y:Attr):
  ∃u' V',hgrow (h0++u) 3 40 V (.sl 3 [y.row])=some (h0++u',V')∧AttrsAt (h0++u') V' (L++[y])∧Up N V':=by
 subst hN;have hmx:maxBytes=140737488355328:=rfl;rcases hV with⟨rfl,rfl⟩|⟨id,rfl,hc,hl⟩
 ·refine⟨u++[.cells (([y]:List Attr).map Attr.row).flatten],.msl (h0++u).length 0 1 3,by rw[←List.append_assoc];rfl,.inr ⟨(h0++u).length,rfl,by simp,by simp⟩,λid k e=>by injection e with e;rw[←e,List.length_append];omega⟩
 ·have hid:h0.length≤id:=hU id _ rfl;have hg:=hgrow_some (b:=40) (rows:=L.map Attr.row) (r2:=[y.row]) (v:= .sl 3 [y.row]) (rowA L) (by decide) hc .mk (by simp) (by rw[List.length_map];simp;omega);rw[List.length_map] at hg;have e:(h0++u).set id .dead++[.cells (L.map Attr.row++[y.row]).flatten]=h0++(u.set (id-h0.length) .dead++[.cells ((L++[y]).map Attr.row).flatten]):=by rw[List.set_append_right _ _ hid,List.append_assoc,List.map_append];rfl
  rw[e] at hg;have hl2:(h0++(u.set (id-h0.length) AObj.dead++[.cells ((L++[y]).map Attr.row).flatten]))=(h0++u.set (id-h0.length) AObj.dead)++[.cells ((L++[y]).map Attr.row).flatten]:=by rw[List.append_assoc]
  have hl3:(h0++u.set (id-h0.length) AObj.dead).length=(h0++u).length:=by simp
  refine⟨_,_,hg,.inr ⟨(h0++u).length,by simp,?_,?_⟩,λid k e=>by injection e with e;rw[←e,List.length_append];omega⟩
  ·rw[hl2,←hl3,List.getElem?_append_right (Nat.le_refl _),Nat.sub_self];rfl
  ·rw[hl2];simp only[List.length_append,List.length_set,List.length_cons,List.length_nil];omega
theorem f142w (y c:Attr) (h:AHeap):Ret cx 60 [.agg c.row,.rptr y.row] h (.bool (decide (keyOf ⟨0,y.name,y.value⟩=keyOf c))) h:=by
 rw[ret_iff,t60_eq,t60,Attr.row,Attr.row];simp only[amS];refine⟨λh1=>?_,λh1=>?_⟩
 ·congr 2;rw[decide_eq_decide];simp[keyOf,h1];exact eq_comm
 ·rw[decide_eq_false (λe=>h1 (by simp[keyOf] at e;exact e.1.symm))]
theorem Attr.row_plain {y:Attr}:(⟨0,y.name,y.value⟩:Attr).row=[I 0,.str y.name,.str y.value]:=rfl
theorem onceF_any (k:Int×Bytes):∀{l out:List Attr},(onceF out l).any (λz=>decide (k=keyOf z))=(out++l).any λz=>decide (k=keyOf z)
 |[],out=>by simp[onceF]
 |y::l,out=>by
  rw[onceF];split
  ·rename_i h;rw[onceF_any k,List.any_append,List.any_append,List.any_cons];by_cases hk:k=keyOf y
   ·subst hk;rw[h];rfl
   ·simp[hk]
  ·rw[onceF_any k,List.append_assoc];rfl
theorem once_any (k:Int×Bytes) (l:List Attr):(once l).any (λz=>decide (k=keyOf z))=l.any λz=>decide (k=keyOf z):=onceF_any k
theorem once_snoc {l:List Attr} {y:Attr}:once (l++[y])=if(once l).any (λz=>decide (keyOf y=keyOf z)) then once l else once l++[y]:=onceF_snoc
theorem f60b (w:BX h bi a o c t G b) (ok:BOk b) (rm:Room b (m+1000)) (hr:TokR nm av r) (hv:IsAttrs l av) (hl:SmallA l) (x:Int):
  ∃h' G',Ret cx 16 [.ptr (some (bi,0)),.agg r,.int .i64 x] h (.tuple []) h'∧BX h' bi a o c t G' (b.merge l x)∧Ext h (own bi G) h' (own bi G'):=by
 obtain⟨K1,V1,u1,r1,_,_⟩:=f33b w ok rm x;have w1:=w.app (u:=u1);obtain⟨c0,c2,c3,c4,c5,c6,c7,c9,c10,c11,rfl⟩:=hr;have x1:Ext h (own bi G) (h++u1) (own bi G):=w.ext_app;by_cases hk:(b.a.nd x).kind=4;rotate_left
 ·refine⟨h++u1,G,?_,by unfold BS.merge;rw[if_neg hk];exact w1,x1⟩;rw[ret_iff,t16_eq,t16];simp only[amS,↓reduceIte,bxS,(f31b w).call,r1.call,ne_eq,hk]
 obtain⟨K2,V2,u2,r2,_,hV,hU⟩:=f33b w1 ok rm x;have w2:=w1.app (u:=u2);have x2:Ext h (own bi G) (h++u1++u2) (own bi G):=x1.trans w1.ext_app;have hx:b.a.has x:=by
  by_cases hp:b.a.has x
  ·exact hp
  ·rw[nd_no hp] at hk;simp at hk
 have hal:=rm.at_ x;have hln:=hl.1;have hev:Ev cx 16 [.ptr (some (bi,0)),.agg [c0,.str nm,c2,c3,c4,c5,c6,c7,av,c9,c10,c11],.int .i64 x] h λr h'=>r= .tuple []∧∃G',BX h' bi a o c t G' (b.merge l x)∧Ext h (own bi G) h' (own bi G'):=by
  unfold Ev;rw[t16_eq,t16];have hvl:=IsSl.lenM hv;simp only[amS,↓reduceIte,bxS,(f31b w).call,r1.call,r2.call,ne_eq,hk,hvl];refine W_loop_st (λs:AVal×Nat=>[s.1,.int .i64 (s.2:Int)]) (λs h1=>∃u L,h1=h++u1++u∧s.2≤l.length∧AttrsAt h1 s.1 L∧Up (h++u1).length s.1∧once L=once ((b.a.nd x).attrs++BS.plain (l.take s.2))∧(∀y∈L,BS.okSp y.space)∧L.length≤(b.a.nd x).attrs.length+s.2) (λs=>l.length-s.2) (V2,0) rfl ⟨u2,(b.a.nd x).attrs,rfl,Nat.zero_le _,hV,hU,?_,?_,by simp⟩ ?_
  ·simp[BS.plain]
  ·exact λy hy=>(ok.ok.nok x hx).asp y hy
  rintro⟨V,n⟩ h1 ⟨u,L,rfl,hn,hV,hU,hL,hs,hle⟩;simp only at hn hV hU hL hle;rcases Nat.lt_or_ge n l.length with hlt|hge
  ·have e2:=IsSl.eaddrM (k:= .i64) hv hlt;rw[Attr.row] at e2;have r3:=f141g hV.in_ (by omega) (F:= .func (.func 60) [] [.rptr l[n].row]) (q:=λc=>decide (keyOf ⟨0,l[n].name,l[n].value⟩=keyOf c)) ⟨_,_,rfl,by decide,λc=>f142w l[n] c _⟩;rw[Attr.row] at r3;obtain⟨u',V',g1,g2,g3⟩:=grow_attr (N:=(h++u1).length) rfl hV hU (by omega) ⟨0,l[n].name,l[n].value⟩;rw[Attr.row_plain] at g1;have em:peval (.mksl 3) [.agg [I 0,.str l[n].name,.str l[n].value]]=some (.sl 3 [[I 0,.str l[n].name,.str l[n].value]]):=rfl;have e1:once ((b.a.nd x).attrs++BS.plain (l.take (n+1)))=once (L++[⟨0,l[n].name,l[n].value⟩]):=by rw[List.take_succ_eq_append_getElem hlt,BS.plain,List.map_append,←List.append_assoc,List.map_singleton,once_snoc,once_snoc,hL];rfl
   have e3:once (L++[⟨0,l[n].name,l[n].value⟩])=if L.any (λz=>decide (keyOf ⟨0,l[n].name,l[n].value⟩=keyOf z)) then once L else once L++[⟨0,l[n].name,l[n].value⟩]:=by rw[once_snoc,once_any]
   simp only[amS,Nat.reduceLeDiff,↓reduceIte,fillAt,bxS,show(n:Int)<(l.length:Int) by omega,e2,r3.call,em,g1,pe_inc (show n<9223372036854775807 by omega)];rw[cndW_iff];refine⟨λh2=>?_,λh2=>?_⟩
   ·refine LoopPost.next (V',n+1) rfl ⟨u',_,rfl,hlt,g2,g3,e1.symm,?_,by simp;omega⟩ (by simp only;omega);intro y hy;rcases List.mem_append.1 hy with hy|hy
    ·exact hs y hy
    ·simp at hy;subst hy;exact⟨by simp only;omega,by simp only;omega⟩
   ·have h2:(L.any λz=>decide (keyOf ⟨0,l[n].name,l[n].value⟩=keyOf z))=true:=by simpa using h2
    rw[if_pos h2] at e3;exact LoopPost.next (V,n+1) rfl ⟨u,L,rfl,hlt,hV,hU,by rw[e1,e3],hs,by simp only;omega⟩ (by simp only;omega)
  ·have hnl:n=l.length:=by omega
   subst hnl;rw[List.take_length] at hL;simp only[amS,↓reduceIte,bxS,show¬(l.length:Int)<(l.length:Int) by omega,(w1.app (u:=u)).l0];obtain⟨h3,G3,r3,w3,x3⟩:=(w1.app (u:=u)).step (A':=b.a.setAttrs x L) (R:=λh3=>Ret cx 61 [.ptr (some (a,0)),.int .i64 x,V] (h++u1++u) (.int .i64 0) h3) λn m ps wa=>by obtain⟨h',ps',f1,f2,f3⟩:=f143w wa rm.lim hx hk hV.in_ (by omega) hs;exact⟨h',n,m,ps',f1,f2,f3⟩
   have e:b.merge l x={b with a:=b.a.setAttrs x L}:=by unfold BS.merge;rw[if_pos hk];unfold Ar.setAttrs;rw[hL]
   simp only[amS,r3.call];refine⟨_,rfl,rfl,G3,?_,?_⟩
   ·rw[e];exact w3
   ·exact(x1.trans w1.ext_app).trans x3
 obtain⟨r,h',hr,rfl,G',w',x'⟩:=hev.ret;exact⟨h',G',hr,w',x'⟩
end
end Go.Am
end
section
namespace Go.Am
open Go
set_option maxRecDepth 100000
section
variable {h h':AHeap} {bi a:Nat} {o c t:AVal} {G G' F:Nat→Prop} {b b':BS} {x:Int} {m:Nat}
variable {nm:Bytes} {av:AVal} {l:List Attr} {r:List AVal} {sp p:Int}
theorem Room.sub (rm:Room b m) (ha:b'.a=b.a) (ho:b'.opn.Sublist b.opn) (hc:b'.act.Sublist b.act) (ht:b'.tm.length≤b.tm.length):Room b' m:=
 ⟨by rw[ha];exact rm.n,by rw[ha];exact rm.at_,by rw[ha];exact rm.data,by have:=rm.opn;have:=ho.length_le;omega,by have:=rm.act;have:=hc.length_le;omega,by have:=rm.tm;omega,λe he=>rm.ents e (hc.subset he),λi hi=>rm.nms i (ho.subset hi)⟩
theorem f44b {v:AVal} {l:List Int} (hv:IsInts l v) (hb:l.length≤1000000000) (h:AHeap):∃u,Ret cx 62 [v] h u h∧IsInts l u:=by
 have hv':IsSl 1 (l.map intRow) v:=hv;have hm:maxBytes=140737488355328:=rfl;obtain⟨u,e,hu⟩:=IsSl.appM (l:=([]:List Int)) (f:=intRow) (v:= .sl 1 []) (b:=8) .mk hv' (by simp;omega);rcases hv' with rfl|⟨rfl,h0⟩
 ·refine⟨u,?_,hu⟩;rw[ret_iff,t62_eq,t62];simp only[amS,show peval (.nileq false .sl) [.sl 1 (l.map intRow),.slnil]=some (.bool false) from rfl,show peval (.mksl 1) []=some (.sl 1 []) from rfl,e]
 ·refine⟨.slnil,?_,.inr ⟨rfl,h0⟩⟩;rw[ret_iff,t62_eq,t62];simp only[amS,show peval (.nileq false .sl) [.slnil,.slnil]=some (.bool true) from rfl]
theorem BX.putT {u:AVal} {l:List Int} (w:BX h bi a o c t G b) (hu:IsInts l u):BX (Am.put h bi 6 u) bi a o c u G {b with tm:=l}:=w.put rfl rfl w.o hu
theorem mk_wT:peval (.mksl 1) [S [116,101,109,112,108,97,116,101]]=some (.sl 1 ([wTemplate].map strRow)):=mk_strs (ws:=[wTemplate]) rfl (by decide)
theorem f61b (w:BX h bi a o c t G b) (hc:IsEnts b.act c) (rm:Room b m):
  ∃h' o' c' t',Ret cx 24 [.ptr (some (bi,0))] h (.tuple []) h'∧BX h' bi a o' c' t' G b.endTemplate∧IsEnts b.endTemplate.act c'∧Ext h (own bi G) h' (own bi G):=by
 have ho:=rm.opn;have hac:=rm.act;have htm:=rm.tm;have r1:=f144 w.sA (by omega) wTemplate;by_cases hneg:lastIdx (isOne [wTemplate]) b.opn<0
 ·refine⟨h,o,c,t,?_,by unfold BS.endTemplate;rw[if_pos hneg];exact w,by unfold BS.endTemplate;rw[if_pos hneg];exact hc,.refl⟩;rw[ret_iff,t24_eq,t24];simp only[amS,bxS,(f31b w).call,r1.call,hneg]
 obtain⟨u1,r2,hu1⟩:=f145 w.sO (by omega);have w1:=w.putO hu1;have l1:(pops unthorough never b.opn).length≤b.opn.length:=pops_le;obtain⟨u2,r3,hu2⟩:=f66 w1.sO (by simp only;omega) (isStrs_of (ws:=[wTemplate])) (by decide);have w2:=w1.putO hu2;obtain⟨fs,hfs,hcs⟩:=hc;have hfl:fs.length=b.act.length:=by rw[←hfs,List.length_map]
 obtain⟨u3,r4,hu3⟩:=f65 (show LObj _ bi 3 fs from⟨c,w2.atC,hcs⟩) (by omega);have w3:=w2.putC (u:=u3) (l:=clearC b.act);have hc3:IsEnts (clearC b.act) u3:=⟨_,by rw[clear_C,hfs],hu3⟩;have lt:=IsSl.lenM w.t;have l6:=w3.l6;have e:b.endTemplate=BS.reset {b with opn:=pops never (isOne [wTemplate]) (pops unthorough never b.opn),act:=clearC b.act,tm:=b.tm.dropLast}:=by unfold BS.endTemplate;rw[if_neg hneg]
 have sO:(pops never (isOne [wTemplate]) (pops unthorough never b.opn)).Sublist b.opn:=(pops_sub (p:=never) (q:=isOne [wTemplate]) (l:=pops unthorough never b.opn)).trans pops_sub;have x3:Ext h (own bi G) (put (put (put h bi 2 u1) bi 2 u2) bi 3 u3) (own bi G):=(put_ext.trans put_ext).trans put_ext;by_cases h0:b.tm=[]
 ·have w3':BX (put (put (put h bi 2 u1) bi 2 u2) bi 3 u3) bi a u2 u3 t G {b with opn:=pops never (isOne [wTemplate]) (pops unthorough never b.opn),act:=clearC b.act,tm:=b.tm.dropLast}:=by
   have:b.tm.dropLast=b.tm:=by rw[h0];rfl
   rw[this];exact w3
  obtain⟨h4,r5,w4,x4⟩:=f59b w3' (rm.sub (b':={b with opn:=pops never (isOne [wTemplate]) (pops unthorough never b.opn),act:=clearC b.act,tm:=b.tm.dropLast}) rfl sO (List.take_sublist _ _) (by simp));refine⟨h4,u2,u3,t,?_,by rw[e];exact w4,by rw[e];exact hc3,x3.trans x4⟩;have lt0:peval (.len false) [t]=some (I 0):=by rw[lt,h0];rfl
  rw[ret_iff,t24_eq,t24];simp only[amS,bxS,(f31b w).call,r1.call,hneg,r2.call,mk_wT,r3.call,r4.call,l6,lt0,r5.call,dtS]
 ·have hpos:=List.length_pos_iff.2 h0;obtain⟨u4,e4,hu4⟩:=IsSl.slcHi w.t (k:= .i64) (n:=b.tm.length-1) (by omega);rw[←List.dropLast_eq_take] at hu4;obtain⟨u5,r5,hu5⟩:=f44b hu4 (by simp;omega) (put (put (put h bi 2 u1) bi 2 u2) bi 3 u3);have w4:=w3.putT hu5;obtain⟨h5,r6,w5,x5⟩:=f59b w4 (rm.sub (b':={b with opn:=pops never (isOne [wTemplate]) (pops unthorough never b.opn),act:=clearC b.act,tm:=b.tm.dropLast}) rfl sO (List.take_sublist _ _) (by simp));refine⟨h5,u2,u3,u5,?_,by rw[e];exact w5,by rw[e];exact hc3,(x3.trans put_ext).trans x5⟩;rw[ret_iff,t24_eq,t24];simp only[amS,bxS,(f31b w).call,r1.call,hneg,r2.call,mk_wT,r3.call,r4.call,l6,lt,show(0:Int)<(b.tm.length:Int) by omega,pe_dec hpos (show b.tm.length<9223372036854775807 by omega),e4,r5.call,w3.st (k:=6) (v0:=t) rfl (IsSl.cells hu5),r6.call,dtS]
theorem f62b (w:BX h bi a o c t G b):∃h',Ret cx 94 [.ptr (some (bi,0))] h (.tuple []) h'∧BX h' bi a o c t G {b with stop:=true}∧Ext h (own bi G) h' (own bi G):=by refine⟨_,?_,w.put (k:=19) (v:= .bool true) rfl rfl w.o w.t,put_ext⟩;rw[ret_iff,t94_eq,t94];simp only[amS,(f31b w).call,w.st (k:=19) (v:=tt) rfl rfl]
theorem f42b (w:BX h bi a o c t G b) (rm:Room b m):∃h' o',Ret cx 74 [.ptr (some (bi,2))] h (.agg b.popI.row) h'∧BX h' bi a o' c t G b.pop∧Ext h (own bi G) h' (own bi G):=by
 have ho:=rm.opn;have ld:hload h none (.ptr (some (bi,2)))=some o:=w.ld 2;have lo:=IsSl.lenM w.o;unfold BS.pop BS.popI;by_cases h2:b.opn.length<2
 ·refine⟨h,o,?_,by rw[if_pos h2];exact w,.refl⟩;rw[if_pos h2,ret_iff,t74_eq,t74];simp only[amS,↓reduceIte,fillAt,bxS,(f104 w.sA).call,show(b.opn.length:Int)<2 by omega];rfl
 ·obtain⟨u,e,hu⟩:=IsSl.slcHi w.o (k:= .i64) (n:=b.opn.length-1) (by omega);refine⟨_,u,?_,by rw[if_neg h2];exact w.putO hu,put_ext⟩;rw[if_neg h2,ret_iff,t74_eq,t74];simp only[amS,↓reduceIte,fillAt,bxS,itS,(f104 w.sA).call,show¬(b.opn.length:Int)<2 by omega,(f39 w.sA (by omega)).call,ld,lo,pe_dec (show 0<b.opn.length by omega) (show b.opn.length<9223372036854775807 by omega),e,w.st (k:=2) (v0:=o) rfl (IsSl.cells hu)]
end
end Go.Am
end
section
namespace Go.Am
open Go
set_option maxRecDepth 100000
def FinPost {σ:Type} (enc:σ→List AVal) (inv:σ→AHeap→Prop) (μ:σ→Nat) (i:Nat) (fin:σ→AHeap→Prop) (s:σ):Post:=
 λx vs h1=>(x= .normal∧∃s',vs=enc s'∧inv s' h1∧μ s'<μ s)∨(x= .exit i∧∃s',vs=enc s'∧fin s' h1)
theorem FinPost.next {σ:Type} {enc:σ→List AVal} {inv fin:σ→AHeap→Prop} {μ:σ→Nat} {i:Nat} {s:σ} {vs:List AVal} {h:AHeap} (s':σ) (e:vs=enc s') (hi:inv s' h) (hl:μ s'<μ s):FinPost enc inv μ i fin s .normal vs h:= .inl ⟨rfl,s',e,hi,hl⟩
theorem FinPost.fin {σ:Type} {enc:σ→List AVal} {inv fin:σ→AHeap→Prop} {μ:σ→Nat} {i:Nat} {s:σ} {vs:List AVal} {h:AHeap} (s':σ) (e:vs=enc s') (hi:fin s' h):FinPost enc inv μ i fin s (.exit i) vs h:= .inr ⟨rfl,s',e,hi⟩
theorem W_loop_fin {C:Ctx} {Q:Post} {h:AHeap} {σ:Type} {key i:Nat} {init:List AVal} {body:List AVal→IT} {k:AExit→List AVal→IT} (enc:σ→List AVal) (inv:σ→AHeap→Prop) (μ:σ→Nat) (fin:σ→AHeap→Prop) (s0:σ) (h0:init=enc s0) (hi:inv s0 h)
  (round:∀s h,inv s h→W C (body (enc s)) (FinPost enc inv μ i fin s) h) (hk:∀s h,fin s h→W C (k (.exit i) (enc s)) Q h):W C (.loop key init body k) Q h:=by
 refine W_loop_st enc inv μ s0 h0 hi λs h hs=>W.mono (round s h hs) ?_;rintro x vs h1 (hn|⟨rfl,s',rfl,hf⟩)
 ·exact .inl hn
 ·exact .inr ⟨by simp,hk s' h1 hf⟩
theorem hload_row {h:AHeap} {id z:Nat} {rows:List (List AVal)} (hr:∀r∈rows,r.length=z) (hc:h[id]?=some (.cells rows.flatten)) {i:Nat} (hi:i<rows.length):hload h (some z) (.ptr (some (id,i*z)))=some (.agg rows[i]):=by
 have hl:i*z+z≤rows.flatten.length:=by
  rw[flat_len hr];have:=Nat.mul_le_mul_right z (show i+1≤rows.length by omega)
  rwa [Nat.add_mul,Nat.one_mul] at this
 simp only[hload,hc,partOf_some];rw[if_pos hl,flat_drop hr,List.drop_eq_getElem_cons hi,List.flatten_cons,List.take_append_of_le_length (by rw[hr _ (List.getElem_mem hi)];exact Nat.le_refl _),List.take_of_length_le (by rw[hr _ (List.getElem_mem hi)];exact Nat.le_refl _)]
section
variable {h h':AHeap} {bi a:Nat} {o c t:AVal} {G G' F:Nat→Prop} {b b':BS} {x:Int} {m:Nat}
variable {nm:Bytes} {av:AVal} {l:List Attr} {r:List AVal} {sp p:Int}
theorem f122b (e:Fmt) (h:AHeap):∃r,Ret cx 90 [.agg e.row] h (.agg r) h∧TokR e.c.name e.v r:=by have hv:e.v.cells=[e.v]:=IsSl.cells e.ok;refine⟨_,?_,I 2,ff,S [],ff,S [],ff,ff,ff,S [],.int .i32 0,rfl⟩;rw[ret_iff,t90_eq,t90,Fmt.row];simp only[amS,Nat.reduceLeDiff,↓reduceIte,fillAt,bxS,hv]
theorem rebF_room:∀{l:List FCor} {b:BS} {m:Nat},Room b (m+4*l.length)→(∀e∈l,e.name.length≤1000∧SmallA e.attrs)→Room (BS.rebF l b).2 m
 |[],b,m,r,_=>by simpa[BS.rebF] using r
 |e::l,b,m,r,hl=>by have h1:=hl e (by simp);rw[BS.rebF];exact rebF_room (ins_room (m:=m+4*l.length) (r.le (by simp;omega)) h1.2 h1.1) λx hx=>hl x (by simp[hx])
theorem rebK_le:b.rebK≤b.act.length:=by unfold BS.rebK;rcases lastIdx_spec (q:=b.settled) (l:=b.act) with⟨h,_⟩|⟨n,h1,h2,_⟩<;>omega
structure RebI (h:AHeap) (bi a:Nat) (t:AVal) (G0:Nat→Prop) (b:BS) (fs:List Fmt) (id m k:Nat) (h1:AHeap):Prop where
 le:k≤fs.length
 low:b.rebK≤k
 ex:∃(o:AVal) (G:Nat→Prop) (b1:BS) (fs1:List Fmt),BX h1 bi a o (.msl id 0 fs.length 3) t G b1∧BOk b1∧Room b1 (m+4*(fs.length-k))∧h1[id]?=some (.cells (fs1.map Fmt.row).flatten)∧fs1.length=fs.length∧fs1.drop k=fs.drop k∧
  BS.rebuild b={(BS.rebF (b.act.drop k) b1).2 with act:=(fs1.take k).map (·.c)++(BS.rebF (b.act.drop k) b1).1}∧¬own bi G id∧Ext h (own bi G0) h1 (own bi G)
theorem BX.actSelf (w:BX h bi a o c t G {b with act:=b.act}):BX h bi a o c t G b:=w
theorem frzAt_of {h1:AHeap} {id:Nat} {v v':AVal} (ha:At h id 3 v) (hf:hfrz h v=some (h1,v')) (he:h1[id]?=h[id]?):hfrzAt h 3 (.ptr (some (id,0)))=some (Am.put h1 id 3 v'):=by obtain⟨cs,hc,e⟩:=ha;rw[hc] at he;unfold hfrzAt;simp only[hc,Nat.zero_add,e,hf,Option.bind_some,he];rw[put_of he]
theorem hfrz_sl {v:AVal} {l:List Fmt} (hv:IsFmts l v):hfrz h v=some (h,v):=by rcases hv with rfl|⟨rfl,_⟩<;>rfl
theorem f138e {v:AVal} (hv:IsFmts [] v) (h:AHeap):∃u,Ret cx 89 [v] h u h∧IsFmts [] u:=by
 have e3:=hobjOf_none (h:=h) (s:= .sl 3 []) (b:=48) (.inr rfl) hv;rcases hv with rfl|⟨rfl,h0⟩
 ·refine⟨.sl 3 [],?_,.mk⟩;rw[ret_iff,t89_eq,t89];simp only[List.map_nil] at e3;simp only[amS,List.map_nil,show peval (.nileq false .sl) [.sl 3 [],.slnil]=some (.bool false) from rfl,show peval (.mksl 3) []=some (.sl 3 []) from rfl,e3]
 ·refine⟨.slnil,?_,.inr ⟨rfl,rfl⟩⟩;rw[ret_iff,t89_eq,t89];simp only[amS,show peval (.nileq false .sl) [.slnil,.slnil]=some (.bool true) from rfl]
theorem RebI.init (w:BX h bi a o c t G b) (ok:BOk b) (rm:Room b (m+4*b.act.length)) {fs:List Fmt} (hfs:fs.map (·.c)=b.act):
  RebI h bi a t G b fs h.length m b.rebK (Am.put (h++[.cells (fs.map Fmt.row).flatten]) bi 3 (.msl h.length 0 fs.length 3)):=by
 have hfl:b.act.length=fs.length:=by rw[←hfs,List.length_map]
 have hk:=rebK_le (b:=b);have hne:h.length≠bi:=Nat.ne_of_gt w.lt;refine⟨by omega,Nat.le_refl _,o,G,b,fs,((w.app (u:=[.cells (fs.map Fmt.row).flatten])).putC (l:=b.act)).actSelf,ok,rm.le (by omega),?_,rfl,rfl,?_,?_,w.ext_app.trans put_ext⟩
 ·rw[put_other hne];simp
 ·unfold BS.rebuild;simp only;rw[List.map_take,hfs]
 ·rintro(rfl|hg)
  ·exact hne rfl
  ·exact absurd (w.w.lt hg) (Nat.lt_irrefl _)
theorem RebI.step {fs:List Fmt} {id k:Nat} {h1:AHeap} (hfs:fs.map (·.c)=b.act) (hen:∀e∈b.act,e.name.length≤1000∧SmallA e.attrs) (hi:h.length≤id) (hlt:k<fs.length) (i:RebI h bi a t G b fs id m k h1):
  ∃(r:List AVal) (h2:AHeap) (n:Int),hload h1 none (.ptr (some (bi,3)))=some (.msl id 0 fs.length 3)∧hload h1 (some 3) (.ptr (some (id,k*3)))=some (.agg fs[k].row)∧Ret cx 90 [.agg fs[k].row] h1 (.agg r) h1∧Ret cx 14 [.ptr (some (bi,0)),.agg r] h1 (.int .i64 n) h2∧hload h2 none (.ptr (some (bi,3)))=some (.msl id 0 fs.length 3)∧
   hstore h2 1 (.ptr (some (id,k*3))) (.int .i64 n)=some (Am.put h2 id (k*3) (.int .i64 n))∧RebI h bi a t G b fs id m (k+1) (Am.put h2 id (k*3) (.int .i64 n)):=by
 obtain⟨o1,G1,b1,fs1,w1,ok1,rm1,hc1,hl1,hd1,hm1,hn1,x1⟩:=i.ex;have hlt1:k<fs1.length:=by omega
 have hfl:b.act.length=fs.length:=by rw[←hfs,List.length_map]
 have hltb:k<b.act.length:=by omega
 have e1:fs1[k]=fs[k]:=by have:=congrArg (λl=>l[0]?) hd1;simp only[List.getElem?_drop,Nat.add_zero] at this;rw[List.getElem?_eq_getElem hlt1,List.getElem?_eq_getElem hlt] at this;exact Option.some.inj this
 have eb:b.act[k]=fs[k].c:=by simp only[←hfs,List.getElem_map]
 have hld:=hload_row (rowF fs1) hc1 (i:=k) (by simpa using hlt1);rw[List.getElem_map,e1] at hld;have hen:=hen fs[k].c (by rw[←eb];exact List.getElem_mem hltb);obtain⟨r,r1,hr⟩:=f122b fs[k] h1;obtain⟨h2,o2,G2,r2,w2,x2⟩:=f11b (m:=m+4*(fs.length-(k+1))) w1 ok1 (rm1.le (by omega)) hr fs[k].ok hen.2 hen.1;have hidl:id<h1.length:=(List.getElem?_eq_some_iff.1 hc1).1;have hc2:h2[id]?=some (.cells (fs1.map Fmt.row).flatten):=by rw[x2.old id hidl hn1];exact hc1
 have hn2:¬own bi G2 id:=λhg=>by
  rcases x2.own id hg with hg|hg
  ·exact hn1 hg
  ·omega
 have at2:At h2 id (k*3) (.int .i64 fs[k].c.node):=⟨_,hc2,by have:=flat_get (k:=0) (rowF fs1) (by decide) (i:=k) (r:=fs[k].row) (by rw[List.getElem?_map,List.getElem?_eq_getElem hlt1,e1];rfl);rw[Nat.add_zero] at this;rw[this];rfl⟩
 let e':Fmt:=⟨{fs[k].c with node:=b1.a.len+1},fs[k].v,fs[k].ok⟩
 have hrow:(fs1.map Fmt.row).flatten.set (k*3) (.int .i64 (b1.a.len+1))=((fs1.set k e').map Fmt.row).flatten:=by have:=flat_set1 (rows:=fs1.map Fmt.row) (i:=k) (k:=0) (v:= .int .i64 (b1.a.len+1)) (rowF fs1) (by simpa using hlt1) (by decide);rw[Nat.add_zero] at this;rw[List.map_set,List.set_eq_take_append_cons_drop,if_pos (by rw[flat_len (rowF fs1),List.length_map];omega)];rw[List.append_assoc] at this;rw[show e'.row=((fs1.map Fmt.row)[k]'(by simpa using hlt1)).set 0 (.int .i64 (b1.a.len+1)) by rw[List.getElem_map,e1];rfl];exact this
 have hnb:id≠bi:=λe=>hn2 (.inl e);refine⟨r,h2,b1.a.len+1,w1.l3,hld,r1,r2,w2.l3,at2.store rfl,⟨hlt,by have:=i.low;omega,o2,G2,_,fs1.set k e',w2.frame λj hj=>put_other λe=>hn2 (e▸hj),ins_ok ok1,ins_room (m:=m+4*(fs.length-(k+1))) (rm1.le (by omega)) hen.2 hen.1,?_,by rw[List.length_set];exact hl1,?_,?_,hn2,⟨by rw[put_len];exact(x1.trans x2).len,λj hj hn=>(put_other (by omega)).trans ((x1.trans x2).old j hj hn),(x1.trans x2).own⟩⟩⟩
 ·rw[put_of hc2,List.getElem?_set_self (by have:=x2.len;omega),hrow]
 ·rw[List.drop_set_of_lt (Nat.lt_succ_self k)];have:=congrArg (λl=>l.drop 1) hd1;simpa[List.drop_drop] using this
 ·rw[hm1,List.drop_eq_getElem_cons hltb,eb,BS.rebF];simp only
  congr 1
  rw[List.take_succ_eq_append_getElem (by rw[List.length_set];exact hlt1),List.getElem_set_self,List.map_append,List.take_set_of_le (Nat.le_refl k),List.append_assoc];rfl
theorem f57b (w:BX h bi a o c t G b) (hc:IsEnts b.act c) (ok:BOk b) (rm:Room b (m+4*b.act.length)):
  ∃h' o' c' G',Ret cx 39 [.ptr (some (bi,0))] h (.tuple []) h'∧BX h' bi a o' c' t G' b.rebuild∧IsEnts b.rebuild.act c'∧Ext h (own bi G) h' (own bi G'):=by
 have ho:=rm.opn;have hac:=rm.act;obtain⟨fs,hfs,hcs⟩:=hc;have hfl:b.act.length=fs.length:=by rw[←hfs,List.length_map]
 have hev:Ev cx 39 [.ptr (some (bi,0))] h λr h'=>r= .tuple []∧∃o' c' G',BX h' bi a o' c' t G' b.rebuild∧IsEnts b.rebuild.act c'∧Ext h (own bi G) h' (own bi G'):=by
  unfold Ev;have l3:=w.l3;have lc:=IsSl.lenM hcs;rw[t39_eq,t39];simp only[amS,bxS,(f31b w).call,l3,lc];refine W_loop_fin (i:=0) (λn:Nat=>[.int .i64 (n:Int)]) (λn h1=>n≤fs.length∧lastIdx b.settled b.act=lastIdx b.settled (b.act.take n)∧h1=h) (λn=>n) (λn h1=>n=b.rebK∧h1=h) fs.length rfl ⟨Nat.le_refl _,by rw[←hfl,List.take_length],rfl⟩ ?_ ?_
  ·rintro n h1 ⟨hn,ha,rfl⟩
   cases n with
   |zero=>simp only[amS,bxS,show¬(0:Int)<((0:Nat):Int) by decide];refine .fin 0 rfl ⟨?_,rfl⟩;unfold BS.rebK;rw[ha];rfl
   |succ n=>
    have hlt:n<b.act.length:=by omega
    have hlt':n<fs.length:=by omega
    rw[lastIdx_take hlt] at ha;have i1:=pe_dec (n:=n+1) (show 0<n+1 by omega) (show n+1<9223372036854775807 by omega);rw[Nat.add_sub_cancel] at i1;have e1:=IsSl.eaddrM (k:= .i64) hcs hlt';have en:fs[n].c.node=b.act[n].node:=by simp only[←hfs,List.getElem_map]
    have r1:=f116 w.sA (by omega) b.act[n].node;have hK:b.settled b.act[n]=true→n+1=b.rebK:=by intro hs;rw[if_pos hs] at ha;unfold BS.rebK;rw[ha];omega
    rw[Fmt.row,en] at e1;simp only[amS,bxS,show(0:Int)<((n+1:Nat):Int) by omega,l3,i1,e1,r1.call,ne_eq];refine⟨λh1=>⟨λh2=>?_,λh2=>?_⟩,λh1=>?_⟩
    ·have hs:b.settled b.act[n]=false:=by unfold BS.settled;rw[decide_eq_false];omega
     rw[if_neg (by rw[hs];decide)] at ha;exact .next n rfl ⟨by omega,ha,rfl⟩ (by omega)
    ·exact .fin (n+1) rfl ⟨hK (by unfold BS.settled;rw[decide_eq_true];omega),rfl⟩
    ·exact .fin (n+1) rfl ⟨hK (by unfold BS.settled;rw[decide_eq_true];omega),rfl⟩
  ·rintro n h1 ⟨rfl,eh⟩;rw[eh];by_cases hne:fs=[]
   ·subst hne;have ha:b.act=[]:=hfs.symm;have hK:b.rebK=0:=by have:=rebK_le (b:=b);rw[ha] at this;exact Nat.le_zero.1 this
    have hb:b.rebuild=b:=by unfold BS.rebuild;rw[ha];simp only[List.drop_nil,BS.rebF,List.take_nil,List.nil_append];rw[←ha]
    obtain⟨u,r1,hu⟩:=f138e hcs h;have w1:=(w.putC (u:=u) (l:=b.act)).actSelf;have e1:=frzAt_of w1.atC (hfrz_sl hu) rfl;have lu:=IsSl.lenM hu;have l3':=w1.l3;rw[List.length_nil] at lu;have hz:(b.rebK:Int)=((0:Nat):Int):=by rw[hK]
    simp only[amS,bxS,l3,r1.call,w.st (k:=3) (v0:=c) rfl (IsSl.cells hu)];refine W_loop_fin (i:=2) (λn:Nat=>[.int .i64 (n:Int)]) (λn h1=>n=0∧h1=Am.put h bi 3 u) (λn=>n) (λn h1=>n=0∧h1=Am.put h bi 3 u) 0 (by rw[hz]) ⟨rfl,rfl⟩ ?_ ?_
    ·rintro n h1 ⟨rfl,rfl⟩;simp only[amS,bxS,l3',lu,show¬((0:Nat):Int)<((0:Nat):Int) by decide];exact .fin 0 rfl ⟨rfl,rfl⟩
    ·rintro n h1 ⟨rfl,rfl⟩;simp only[amS,e1];refine⟨_,rfl,rfl,o,u,G,?_,⟨[],by rw[hb,ha];rfl,hu⟩,put_ext.trans put_ext⟩;rw[hb];exact(w1.putC (l:=b.act)).actSelf
   ·have i0:=RebI.init (m:=m) w ok rm hfs;have r1:=f138 (h:=h) hcs hne (by omega);have w0:=w.app (u:=[.cells (fs.map Fmt.row).flatten]);simp only[amS,bxS,l3,r1.call,w0.st (k:=3) (v:= .msl h.length 0 fs.length 3) (v0:=c) rfl rfl];refine W_loop_fin (i:=2) (λn:Nat=>[.int .i64 (n:Int)]) (λk h1=>RebI h bi a t G b fs h.length m k h1) (λk=>fs.length-k) (λk h1=>k=fs.length∧RebI h bi a t G b fs h.length m k h1) b.rebK rfl i0 ?_ ?_
    ·intro k h1 i;have hle:=i.le;have lm:peval (.len false) [.msl h.length 0 fs.length 3]=some (.int .i64 (fs.length:Int)):=rfl;rcases Nat.lt_or_ge k fs.length with hlt|hge
     ·obtain⟨r,h2,n,s1,s2,s3,s4,s5,s6,s7⟩:=RebI.step hfs rm.ents (Nat.le_refl _) hlt i;have e1:peval (.eaddr 3) [.msl h.length 0 fs.length 3,.int .i64 (k:Int)]=some (.ptr (some (h.length,k*3))):=eaddr_msl hlt;simp only[amS,bxS,s1,lm,show(k:Int)<(fs.length:Int) by omega,e1,s2,s3.call,W_same_self,s4.call,s5,s6,pe_inc (show k<9223372036854775807 by omega)];exact .next (k+1) rfl s7 (by omega)
     ·obtain⟨o1,G1,b1,fs1,w1,_⟩:=i.ex;simp only[amS,bxS,w1.l3,lm,show¬(k:Int)<(fs.length:Int) by omega];exact .fin k rfl ⟨by omega,i⟩
    ·rintro k h1 ⟨rfl,i⟩;obtain⟨o1,G1,b1,fs1,w1,ok1,rm1,hc1,hl1,hd1,hm1,hn1,x1⟩:=i.ex;have hf:=hfrz_rows (rowF fs1) hc1;rw[List.length_map,hl1] at hf;have hnb:h.length≠bi:=λe=>hn1 (.inl e);have e1:=frzAt_of w1.atC hf (by rw[List.getElem?_set_ne hnb]);have w2:BX (h1.set h.length .dead) bi a o1 _ t G1 b1:=w1.frame λj hj=>List.getElem?_set_ne λe=>hn1 (by rw[e];exact hj);simp only[amS,e1];have hb:b.rebuild={b1 with act:=fs1.map (·.c)}:=by rw[hm1,List.drop_of_length_le (by omega),List.take_of_length_le (by omega)];simp only[BS.rebF,List.append_nil]
     refine⟨_,rfl,rfl,o1,_,G1,by rw[hb];exact w2.putC,⟨fs1,by rw[hb],.mk⟩,?_⟩;refine Ext.trans ⟨by rw[List.length_set];exact x1.len,λj hj hn=>?_,x1.own⟩ put_ext;rw[List.getElem?_set_ne (by omega)];exact x1.old j hj hn
 obtain⟨r,h',hr,rfl,o',c',G',w',hc',x'⟩:=hev.ret;exact⟨h',o',c',G',hr,w',hc',x'⟩
end
end Go.Am
end
section
namespace Go.Am
open Go
set_option maxRecDepth 100000
theorem msl_hi3 {id l k:Nat} (hl:0<l) (hk:k≤l):peval (.slc 3 false false true) [.msl id 0 l 3,.int .i64 (k:Int)]=some (.msl id 0 k 3):=by
 have e1:bound (k:Int) l=some k:=by unfold bound;rw[if_pos (by omega)];rfl
 simp[peval,sliceOf,boundsOf,e1];omega
theorem msl_lo3 {id l k:Nat} (hk:k≤l):peval (.slc 3 false true false) [.msl id 0 l 3,.int .i64 (k:Int)]=some (if k<l then .msl id (k*3) (l-k) 3 else .sl 3 []):=by
 have e1:bound (k:Int) l=some k:=by unfold bound;rw[if_pos (by omega)];rfl
 simp[peval,sliceOf,boundsOf,e1];split<;>rfl
theorem dropAt_len {α:Type} {l:List α} {k:Nat} (hk:k<l.length):(dropAt l k).length=l.length-1:=by unfold dropAt;rw[List.length_append,List.length_take,List.length_drop];omega
theorem f203b {h:AHeap} {id k:Nat} {rows:List (List AVal)} (hr:∀r∈rows,r.length=3) (hc:h[id]?=some (.cells rows.flatten)) (hk:k<rows.length) (hb:rows.length≤1000000000):
  ∃cs',Ret cx 172 [.msl id 0 rows.length 3,.int .i64 (k:Int),.int .i64 ((k+1:Nat):Int)] h (.msl id 0 (rows.length-1) 3) (h.set id (.cells ((dropAt rows k).flatten++cs'))):=by
 have hid:=(List.getElem?_eq_some_iff.1 hc).1;have hll:=dropAt_len hk;have hlf:=flat_len hr;have hrd:∀r∈dropAt rows k,r.length=3:=λr hm=>hr r (by
  unfold dropAt at hm;rcases List.mem_append.1 hm with hm|hm
  ·exact List.mem_of_mem_take hm
  ·exact List.mem_of_mem_drop hm)
 have hfd:=flat_len hrd;rw[hll] at hfd;have htk:(rows.take k).flatten=rows.flatten.take (k*3):=(flat_take hr).symm;have hdk:(rows.drop (k+1)).flatten=rows.flatten.drop ((k+1)*3):=(flat_drop hr).symm;obtain⟨cs2,eg,hcl⟩:∃cs2,hgrow h 3 48 (.msl id 0 k 3) (if k+1<rows.length then .msl id ((k+1)*3) (rows.length-(k+1)) 3 else .sl 3 [])=some (h.set id (.cells ((dropAt rows k).flatten++cs2)),.msl id 0 (rows.length-1) 3)∧cs2.length=3:=by
  have er:rowsAt h 3 (if k+1<rows.length then .msl id ((k+1)*3) (rows.length-(k+1)) 3 else .sl 3 [])=some (rows.drop (k+1)):=by
   by_cases hkl:k+1<rows.length
   ·rw[if_pos hkl];have e2:=flat_rows hr (n:=rows.length-(k+1)) (off:=k+1) (by omega);rw[List.take_of_length_le (by rw[List.length_drop];exact Nat.le_refl _)] at e2;simp only[rowsAt,if_true,hc,e2];rw[if_pos (by rw[hlf];omega)]
   ·rw[if_neg hkl,List.drop_of_length_le (by omega)];rfl
  by_cases hlast:k+1=rows.length
  ·refine⟨rows.flatten.drop (k*3),?_,by rw[List.length_drop,hlf];omega⟩;have ed:rows.drop (k+1)=[]:=List.drop_of_length_le (by omega);rw[ed] at er;have e3:(dropAt rows k).flatten++rows.flatten.drop (k*3)=rows.flatten:=by unfold dropAt;rw[ed,List.append_nil,htk,List.take_append_drop]
   have e4:h.set id (.cells ((dropAt rows k).flatten++rows.flatten.drop (k*3)))=h:=by rw[e3];obtain⟨hl2,e5⟩:=List.getElem?_eq_some_iff.1 hc;rw[←e5,List.set_getElem_self]
   simp only[hgrow,er,if_true];rw[e4,show rows.length-1=k by omega]
  ·obtain⟨y,l2,hd⟩:∃y l2,rows.drop (k+1)=y::l2:=⟨_,_,List.drop_eq_getElem_cons (show k+1<rows.length by omega)⟩;have hlen2:(y::l2).length=rows.length-(k+1):=by rw[←hd,List.length_drop]
   refine⟨rows.flatten.drop ((rows.length-1)*3),?_,by rw[List.length_drop,hlf];omega⟩;rw[hd] at er;simp only[hgrow,er,hc,if_true];rw[hlen2,if_pos (by rw[hlf];omega)];rw[←hd,hdk,Nat.zero_add,Nat.zero_add,show k+(rows.length-(k+1))=rows.length-1 by omega];unfold dropAt;rw[List.flatten_append,htk,hdk]
 generalize hh2:h.set id (.cells ((dropAt rows k).flatten++cs2))=h2 at eg;have hc2:h2[id]?=some (.cells ((dropAt rows k).flatten++cs2)):=by rw[←hh2];exact List.getElem?_set_self hid
 have hcl2:((dropAt rows k).flatten++cs2).length=rows.length*3:=by rw[List.length_append,hfd,hcl];omega
 have ed:meval (.deep 3 true true) h2 [.msl id 0 (rows.length-1) 3,.int .i64 ((rows.length-1:Nat):Int),.int .i64 (rows.length:Int)]=some (h2,.msl id ((rows.length-1)*3) 1 3):=by
  simp only[meval,hdeep,hc2];have e1:bound (rows.length:Int) ((((dropAt rows k).flatten++cs2).length-0)/3)=some rows.length:=by unfold bound;rw[if_pos (by rw[hcl2];omega)];rfl
  have e2:bound ((rows.length-1:Nat):Int) rows.length=some (rows.length-1):=by unfold bound;rw[if_pos (by omega)];rfl
  rw[if_pos ⟨trivial,trivial,Nat.zero_le _⟩];simp only[boundsOf,e1,e2,Option.bind_some,Option.map_some];rw[if_pos (by rw[hcl2];omega)]
  congr 3
  ·omega
  ·omega
 have ec:meval (.clear 3 [I 0,S [],.slnil]) h2 [.msl id ((rows.length-1)*3) 1 3]=some (h.set id (.cells ((dropAt rows k).flatten++[I 0,S [],.slnil])),.bool true):=by
  simp only[meval,hclear,hc2];rw[if_pos ⟨trivial,rfl,by rw[hcl2];omega⟩]
  congr 2
  rw[←hh2,List.set_set]
  congr 2
  rw[List.take_left' hfd,List.drop_of_length_le (by rw[hcl2];omega)];simp
 refine⟨[I 0,S [],.slnil],?_⟩;have elen:∀i n,peval (.len false) [.msl i 0 n 3]=some (.int .i64 (n:Int)):=λ_ _=>rfl;have e3:meval (.chk3 3) h [.msl id 0 rows.length 3,.int .i64 (k:Int),.int .i64 ((k+1:Nat):Int),.int .i64 (rows.length:Int)]=some (h,.bool true):=by simp only[meval,chk3Of];simp;omega
 rw[ret_iff,t172_eq,t172];simp only[amS,bxS,elen,e3,show¬(k:Int)=((k+1:Nat):Int) by omega,msl_hi3 (id:=id) (show 0<rows.length by omega) (show k≤rows.length by omega),msl_lo3 (id:=id) (show k+1≤rows.length by omega),eg,ed,ec]
theorem rowsFrom_app {z:Nat}:∀{rows:List (List AVal)} {cs pre:List AVal},(∀r∈rows,r.length=z)→rowsFrom (pre++(rows.flatten++cs)) z pre.length rows.length=rows
 |[],_,_,_=>rfl
 |x::rows,cs,pre,h=>by have hx:=h x (by simp);have:=rowsFrom_app (rows:=rows) (cs:=cs) (pre:=pre++x) (λr hr=>h r (by simp[hr]));simp only[List.append_assoc,List.length_append,hx] at this;simp only[List.flatten_cons,List.length_cons,rowsFrom,List.append_assoc];rw[List.drop_left' rfl,List.take_left' hx,this]
theorem hfrz_rows' {h:AHeap} {id z:Nat} {rows:List (List AVal)} {cs:List AVal} (hr:∀r∈rows,r.length=z) (hc:h[id]?=some (.cells (rows.flatten++cs))):hfrz h (.msl id 0 rows.length z)=some (h.set id .dead,.sl z rows):=by unfold hfrz;simp only[hc,Nat.zero_add];have:=rowsFrom_app (cs:=cs) (pre:=[]) hr;simp only[List.nil_append,List.length_nil] at this;rw[if_pos (by rw[List.length_append,flat_len hr];omega),this]
def acells (e:Fmt) (at_ mk:Int) (anc far:Item) (last:Int):List AVal:=
 [.int .i64 e.c.node,.str e.c.name,e.v,.int .i64 at_,.int .i64 mk,.int .i64 anc.node,.int .i64 anc.space,.str anc.name,.bool anc.point,.int .i64 far.node,.int .i64 far.space,.str far.name,.bool far.point,.int .i64 last]
def own2 (ai bi:Nat) (G:Nat→Prop):Nat→Prop:=λi=>i=ai∨own bi G i
section
variable {h h':AHeap} {bi a ai:Nat} {o c t:AVal} {G G' F:Nat→Prop} {b b':BS} {x:Int} {m:Nat}
variable {nm:Bytes} {av:AVal} {l:List Attr} {r:List AVal} {sp p:Int} {e:Fmt} {at_ mk last:Int} {anc far:Item}
theorem ext_own2 (x:Ext h (own bi G) h' (own bi G')) (ai:Nat):Ext h (own2 ai bi G) h' (own2 ai bi G'):=
 ⟨x.len,λi hi hn=>x.old i hi λhg=>hn (.inr hg),λi hi=>by
  rcases hi with hi|hi
  ·exact .inl (.inl hi)
  ·rcases x.own i hi with h|h
   ·exact .inl (.inr h)
   ·exact .inr h⟩
theorem put_ext2 {k:Nat} {v:AVal}:Ext h (Am.own2 ai bi G) (put h ai k v) (Am.own2 ai bi G):=⟨by rw[put_len];exact Nat.le_refl _,λi _ hn=>put_other λe=>hn (.inl e),λ_ h=> .inl h⟩
theorem put_cells {id k:Nat} {v:AVal} {cs:List AVal} (hc:h[id]?=some (.cells cs)):(put h id k v)[id]?=some (.cells (cs.set k v)):=by rw[put_of hc,List.getElem?_set_self (List.getElem?_eq_some_iff.1 hc).1]
def down (k:Nat) (x:Int):Int:=if(k:Int)<x then x-1 else x
set_option maxHeartbeats 1000000 in
theorem f117b (w:BX h bi a o c t G b) (hc:IsEnts b.act c) (rm:Room b m) (ha:h[ai]?=some (.cells (acells e at_ mk anc far last))) (hn:¬own bi G ai) {k:Nat} (hk:k<b.act.length) (h1:0≤at_∧at_≤1000000000) (h2:0≤mk∧mk≤1000000000):
  ∃h' c',Ret cx 129 [.ptr (some (ai,0)),.ptr (some (bi,0)),.int .i64 (k:Int)] h (.tuple []) h'∧BX h' bi a o c' t G {b with act:=dropAt b.act k}∧IsEnts (dropAt b.act k) c'∧h'[ai]?=some (.cells (acells e (down k at_) (down k mk) anc far last))∧Ext h (own2 ai bi G) h' (own2 ai bi G):=by
 obtain⟨fs,hfs,hcs⟩:=hc;have hac:=rm.act;have hfl:b.act.length=fs.length:=by rw[←hfs,List.length_map]
 have hne:fs≠[]:=by intro e;rw[hfl,e] at hk;exact absurd hk (Nat.not_lt_zero _)
 have hab:ai≠bi:=λe=>hn (.inl e);have hai:ai<h.length:=(List.getElem?_eq_some_iff.1 ha).1;have r1:=f138 (h:=h) hcs hne (by omega);have hX:(h++[AObj.cells (fs.map Fmt.row).flatten])[h.length]?=some (.cells (fs.map Fmt.row).flatten):=by simp
 obtain⟨cs',r2⟩:=f203b (rowF fs) hX (k:=k) (by simp;omega) (by simp;omega);rw[List.length_map] at r2;have e2:(h++[AObj.cells (fs.map Fmt.row).flatten]).set h.length (.cells ((dropAt (fs.map Fmt.row) k).flatten++cs'))=h++[.cells ((dropAt (fs.map Fmt.row) k).flatten++cs')]:=by rw[List.set_append_right _ _ (Nat.le_refl _),Nat.sub_self];rfl
 rw[e2] at r2;generalize hH:h++[AObj.cells ((dropAt (fs.map Fmt.row) k).flatten++cs')]=H at r2;have w1:BX H bi a o c t G b:=by rw[←hH];exact w.app
 have ha1:H[ai]?=some (.cells (acells e at_ mk anc far last)):=by rw[←hH,List.getElem?_append_left hai];exact ha
 have hX1:H[h.length]?=some (.cells ((dropAt (fs.map Fmt.row) k).flatten++cs')):=by rw[←hH];simp
 have hL:H.length=h.length+1:=by rw[←hH];simp
 have x1:Ext h (own2 ai bi G) H (own2 ai bi G):=by rw[←hH];exact ext_own2 w.ext_app ai
 have hbl:bi≠h.length:=Nat.ne_of_lt w.lt;have hal:ai≠h.length:=Nat.ne_of_lt hai;have s1:=w1.st (k:=3) (v:= .msl h.length 0 (fs.length-1) 3) (v0:=c) rfl rfl;have w2:=w1.putC (u:= .msl h.length 0 (fs.length-1) 3) (l:=b.act);have ha2:(put H bi 3 (.msl h.length 0 (fs.length-1) 3))[ai]?=some (.cells (acells e at_ mk anc far last)):=by rw[put_other hab];exact ha1
 have hX2:(put H bi 3 (.msl h.length 0 (fs.length-1) 3))[h.length]?=some (.cells ((dropAt (fs.map Fmt.row) k).flatten++cs')):=by rw[put_other (Ne.symm hbl)];exact hX1
 have x2:Ext h (own2 ai bi G) (put H bi 3 (.msl h.length 0 (fs.length-1) 3)) (own2 ai bi G):=x1.trans (ext_own2 put_ext ai);generalize hH2:put H bi 3 (.msl h.length 0 (fs.length-1) 3)=H2 at*;have hL2:H2.length=h.length+1:=by rw[←hH2,put_len,hL]
 have t3:At H2 ai 3 (.int .i64 at_):=⟨_,ha2,rfl⟩;have ha3:=put_cells (k:=3) (v:= .int .i64 (down k at_)) ha2;have e3:put H2 ai 3 (.int .i64 (down k at_))=if(k:Int)<at_ then put H2 ai 3 (.int .i64 (at_-1)) else H2:=by
  unfold down;split
  ·rfl
  ·exact t3.same
 have w3:BX (put H2 ai 3 (.int .i64 (down k at_))) bi a o _ t G _:=w2.frame λj hj=>put_other λe=>hn (e▸hj);have hX3:(put H2 ai 3 (.int .i64 (down k at_)))[h.length]?=_:=(put_other (Ne.symm hal)).trans hX2;have x3:=x2.trans (put_ext2 (k:=3) (v:= .int .i64 (down k at_)));generalize hH3:put H2 ai 3 (.int .i64 (down k at_))=H3 at*;have t4:At H3 ai 4 (.int .i64 mk):=⟨_,ha3,rfl⟩;have ha4:=put_cells (k:=4) (v:= .int .i64 (down k mk)) ha3;have e4:put H3 ai 4 (.int .i64 (down k mk))=if(k:Int)<mk then put H3 ai 4 (.int .i64 (mk-1)) else H3:=by
  unfold down;split
  ·rfl
  ·exact t4.same
 have w4:BX (put H3 ai 4 (.int .i64 (down k mk))) bi a o _ t G _:=w3.frame λj hj=>put_other λe=>hn (e▸hj);have hX4:(put H3 ai 4 (.int .i64 (down k mk)))[h.length]?=_:=(put_other (Ne.symm hal)).trans hX3;have x4:=x3.trans (put_ext2 (k:=4) (v:= .int .i64 (down k mk)));generalize hH4:put H3 ai 4 (.int .i64 (down k mk))=H4 at*;have hrd:∀r∈dropAt (fs.map Fmt.row) k,r.length=3:=λr hm=>rowF fs r (by
  unfold dropAt at hm;rcases List.mem_append.1 hm with hm|hm
  ·exact List.mem_of_mem_take hm
  ·exact List.mem_of_mem_drop hm)
 have f4:=hfrz_rows' hrd hX4;rw[dropAt_len (by simp;omega),List.length_map] at f4;have e5:=frzAt_of w4.atC f4 (by rw[List.getElem?_set_ne (Ne.symm hbl)]);have w5:BX (H4.set h.length .dead) bi a o _ t G {b with act:=b.act}:=w4.frame λj hj=>List.getElem?_set_ne λe=>by
  subst e;rcases hj with hj|hj
  ·exact hbl hj.symm
  ·exact absurd (w.w.lt hj) (Nat.lt_irrefl _)
 have ed:dropAt (fs.map Fmt.row) k=(dropAt fs k).map Fmt.row:=by unfold dropAt;rw[List.map_append,List.map_take,List.map_drop]
 have ec:(dropAt fs k).map (·.c)=dropAt b.act k:=by unfold dropAt;rw[List.map_append,List.map_take,List.map_drop,hfs]
 refine⟨_,.sl 3 (dropAt (fs.map Fmt.row) k),?_,w5.putC (l:=dropAt b.act k),⟨dropAt fs k,ec,by rw[ed];exact .mk⟩,?_,?_⟩
 ·have ld3:hload H2 none (.ptr (some (ai,3)))=some (.int .i64 at_):=t3.load;have ld4:hload H3 none (.ptr (some (ai,4)))=some (.int .i64 mk):=t4.load;have inc:=pe_inc (show k<9223372036854775807 by omega);have d3:=pe_subI (show -9223372036854775808≤at_-1 by omega) (show at_-1<9223372036854775808 by omega);have d4:=pe_subI (show -9223372036854775808≤mk-1 by omega) (show mk-1<9223372036854775808 by omega);rw[ret_iff,t129_eq,t129];by_cases c3:(k:Int)<at_
  ·rw[if_pos c3] at e3;have s3:hstore H2 1 (.ptr (some (ai,3))) (.int .i64 (at_-1))=some H3:=by rw[e3];exact t3.store rfl
   by_cases c4:(k:Int)<mk
   ·rw[if_pos c4] at e4;have s4:hstore H3 1 (.ptr (some (ai,4))) (.int .i64 (mk-1))=some H4:=by rw[e4];exact t4.store rfl
    simp only[amS,bxS,w.l3,r1.call,inc,r2.call,s1,ld3,c3,d3,s3,ld4,c4,d4,s4,e5]
   ·rw[if_neg c4] at e4;subst e4;simp only[amS,bxS,w.l3,r1.call,inc,r2.call,s1,ld3,c3,d3,s3,ld4,c4,e5]
  ·rw[if_neg c3] at e3;subst e3;by_cases c4:(k:Int)<mk
   ·rw[if_pos c4] at e4;have s4:hstore H3 1 (.ptr (some (ai,4))) (.int .i64 (mk-1))=some H4:=by rw[e4];exact t4.store rfl
    simp only[amS,bxS,w.l3,r1.call,inc,r2.call,s1,ld3,c3,ld4,c4,d4,s4,e5]
   ·rw[if_neg c4] at e4;subst e4;simp only[amS,bxS,w.l3,r1.call,inc,r2.call,s1,ld3,c3,ld4,c4,e5]
 ·rw[put_other hab,List.getElem?_set_ne (Ne.symm hal),ha4];rfl
 ·refine Ext.trans ⟨by rw[List.length_set];exact x4.len,λj hj hn=>?_,x4.own⟩ (ext_own2 put_ext ai);rw[List.getElem?_set_ne (by omega)];exact x4.old j hj hn
end
end Go.Am
end
section
namespace Go.Am
open Go
set_option maxRecDepth 100000
section
variable {α:Type} {q:α→Bool} {l:List α}
theorem lastIdx_is {p:Nat} (hp:p<l.length) (h1:q l[p]=true) (h2:∀j (hj:j<l.length),p<j→q l[j]=false):lastIdx q l=(p:Int):=by
 rcases lastIdx_spec (q:=q) (l:=l) with⟨e,h⟩|⟨n,hn,e,h3,h4⟩
 ·rw[h _ (List.getElem_mem hp)] at h1;exact absurd h1 (by decide)
 ·rcases Nat.lt_trichotomy n p with h|h|h
  ·have:=h4 p hp h;rw[this] at h1;exact absurd h1 (by decide)
  ·rw[e,h]
  ·have:=h2 n hn h;rw[this] at h3;exact absurd h3 (by decide)
theorem lastIdx_get {p:Nat} (e:lastIdx q l=(p:Int)):∃hp:p<l.length,q l[p]=true∧∀j (hj:j<l.length),p<j→q l[j]=false:=by
 rcases lastIdx_spec (q:=q) (l:=l) with⟨e1,h⟩|⟨n,hn,e1,h3,h4⟩
 ·omega
 ·have:n=p:=by omega
  subst this;exact⟨hn,h3,λj hj h=>h4 j hj h⟩
theorem dropAt_get? {k j:Nat} (hk:k<l.length):(dropAt l k)[j]?=if j<k then l[j]? else l[j+1]?:=by
 unfold dropAt;by_cases h:j<k
 ·rw[if_pos h,List.getElem?_append_left (by rw[List.length_take];omega),List.getElem?_take,if_pos h]
 ·rw[if_neg h,List.getElem?_append_right (by rw[List.length_take];omega),List.getElem?_drop]
  congr 1
  rw[List.length_take];omega
theorem dropAt_get {k j:Nat} (hk:k<l.length) (hj:j<(dropAt l k).length):(dropAt l k)[j]=if h:j<k then l[j]'(by omega) else l[j+1]'(by rw[dropAt_len hk] at hj;omega):=by
 have hl:=dropAt_len hk;have:=dropAt_get? (j:=j) hk;rw[List.getElem?_eq_getElem hj] at this;by_cases h:j<k
 ·rw[dif_pos h];rw[if_pos h,List.getElem?_eq_getElem (by omega)] at this;exact Option.some.inj this
 ·rw[dif_neg h];rw[if_neg h,List.getElem?_eq_getElem (by omega)] at this;exact Option.some.inj this
theorem lastIdx_drop {p k:Nat} (e:lastIdx q l=(p:Int)) (hk:k<l.length) (hne:k≠p):lastIdx q (dropAt l k)=down k p:=by
 obtain⟨hp,h1,h2⟩:=lastIdx_get e;have hl:=dropAt_len hk;unfold down;by_cases hkp:k<p
 ·rw[if_pos (by omega),show(p:Int)-1=((p-1:Nat):Int) by omega];refine lastIdx_is (by omega) ?_ ?_
  ·rw[dropAt_get hk,dif_neg (by omega)];have:p-1+1=p:=by omega
   simp only[this,h1]
  ·intro j hj h;rw[dropAt_get hk,dif_neg (by omega)];exact h2 _ _ (by omega)
 ·rw[if_neg (by omega)];refine lastIdx_is (by omega) ?_ ?_
  ·rw[dropAt_get hk,dif_pos (by omega)];exact h1
  ·intro j hj h;rw[dropAt_get hk];split
   ·exact h2 _ _ h
   ·exact h2 _ _ (by omega)
theorem lastIdx_set {p k:Nat} {x:α} (e:lastIdx q l=(p:Int)) (hne:k≠p) (hx:q x=false):lastIdx q (l.set k x)=(p:Int):=by
 obtain⟨hp,h1,h2⟩:=lastIdx_get e;refine lastIdx_is (by rw[List.length_set];exact hp) ?_ ?_
 ·rw[List.getElem_set_ne hne];exact h1
 ·intro j hj h;rw[List.getElem_set];split
  ·exact hx
  ·rw[List.length_set] at hj;exact h2 j hj h
end
theorem lastIdx_node {l:List Item} (hn:(l.map Item.node).Nodup) {i:Nat} (hi:i<l.length):lastIdx (isNode l[i].node) l=(i:Int):=by
 refine lastIdx_is hi (by simp[isNode]) λj hj h=>?_;by_cases he:l[i].node=l[j].node
 ·have h2:(l.map Item.node)[i]'(by simpa using hi)=(l.map Item.node)[j]'(by simpa using hj):=by simpa using he
  exact absurd h2 (List.pairwise_iff_getElem.1 hn i j (by simpa using hi) (by simpa using hj) h)
 ·unfold isNode;simpa using λe=>he e.symm
theorem entC_get {n:Int} {l:List FCor} (h:0≤entC n l):∃p:Nat,∃hp:p<l.length,entC n l=(p:Int)∧n≠0∧l[p].node=n∧lastIdx (nodeC n) l=(p:Int):=by
 unfold entC at h⊢;split at h
 ·omega
 ·rename_i h0;rw[if_neg h0];obtain⟨p,hp⟩:∃p:Nat,lastIdx (nodeC n) l=(p:Int):=⟨_,(Int.toNat_of_nonneg h).symm⟩;obtain⟨h1,h2,_⟩:=lastIdx_get hp;exact⟨p,h1,hp,h0,by simpa[nodeC] using h2,hp⟩
theorem entC_drop {n:Int} {l:List FCor} {k:Nat} (h:0≤entC n l) (hk:k<l.length) (hne:l[k].node≠n):entC n (dropAt l k)=down k (entC n l):=by obtain⟨p,hp,e,h0,h1,h2⟩:=entC_get h;rw[e,←lastIdx_drop h2 hk (by rintro rfl;exact hne h1)];unfold entC;rw[if_neg h0]
theorem entC_set {n:Int} {l:List FCor} {k:Nat} {x:FCor} (h:0≤entC n l) (hk:k<l.length) (hne:l[k].node≠n) (hx:x.node≠n):entC n (l.set k x)=entC n l:=by obtain⟨p,hp,e,h0,h1,h2⟩:=entC_get h;rw[e,←lastIdx_set (x:=x) (k:=k) h2 (by rintro rfl;exact hne h1) (by simp[nodeC];exact hx)];unfold entC;rw[if_neg h0]
theorem entC_self {n:Int} {l:List FCor} (hn:((l.map FCor.node).filter λn=>decide (n≠0)).Nodup) (h:0≤entC n l):entC n (dropAt l (entC n l).toNat)<0:=by
 obtain⟨p,hp,e,h0,h1,h2⟩:=entC_get h;rw[e,Int.toNat_natCast];refine Int.not_le.1 λh3=>?_;obtain⟨p2,hp2,e2,_,h4,_⟩:=entC_get h3;have:l=l.take p++l[p]::l.drop (p+1):=by rw[←List.drop_eq_getElem_cons hp,List.take_append_drop]
 rw[this,List.map_append,List.map_cons,List.filter_append,List.filter_cons,if_pos (by simpa[h1] using h0),List.nodup_append,List.nodup_cons] at hn;have hm:=List.getElem_mem hp2;generalize(dropAt l p)[p2]=y at hm h4;unfold dropAt at hm;rcases List.mem_append.1 hm with hm|hm
 ·exact hn.2.2 y.node (List.mem_filter.2 ⟨List.mem_map_of_mem hm,by simpa[h4] using h0⟩) l[p].node (by simp) (by rw[h4,h1])
 ·exact hn.2.1.1 (List.mem_filter.2 ⟨by rw[h1,←h4];exact List.mem_map_of_mem hm,by simpa[h1] using h0⟩)
section
variable {h h':AHeap} {bi a ai:Nat} {o c t:AVal} {G G' F:Nat→Prop} {b b':BS} {x:Int} {m:Nat}
variable {nm:Bytes} {av:AVal} {l:List Attr} {r:List AVal} {sp p:Int} {e:Fmt} {at_ mk last:Int} {anc far:Item}
theorem betw1_room {blk anc:Int} {far i:Nat} {l:Int} {mk m:Nat} (r:Room b (m+4)):Room (BS.betw1 blk anc far i b l mk).1 m:=by
 unfold BS.betw1;simp only
 split
 ·exact(r.le (by omega)).sub rfl dropAt_sub (List.Sublist.refl _) (Nat.le_refl _)
 ·split
  ·exact(r.le (by omega)).sub rfl dropAt_sub dropAt_sub (Nat.le_refl _)
  ·rename_i he _;obtain⟨p,hp,e1,_,_,_⟩:=entC_get (Int.not_lt.1 he);rw[e1,Int.toNat_natCast,List.getD_eq_getElem?_getD,List.getElem?_eq_getElem hp,Option.getD_some];have hen:=r.ents _ (List.getElem_mem hp);have r1:=mk_room (m:=m+1) (nm:=b.act[p].name) (l:=b.act[p].attrs) (sp:=1) (p:=anc) (r.le (by omega)) hen.2;have r2:=(r1.le (m':=m) (by omega)).setA (same_tput (p:=(b.mkI b.act[p].name b.act[p].attrs 1).node) (x:=l) (bf:=0));refine⟨r2.n,r2.at_,r2.data,by simp only[List.length_set];exact r2.opn,by simp only[List.length_set];exact r2.act,r2.tm,λe he=>?_,λi hi=>?_⟩
   ·rcases List.mem_or_eq_of_mem_set he with he|rfl
    ·exact r2.ents e he
    ·exact hen
   ·rcases List.mem_or_eq_of_mem_set hi with hi|rfl
    ·exact r2.nms i hi
    ·exact mkI_name hen.1
end
end Go.Am
end
section
namespace Go.Am
open Go
set_option maxRecDepth 100000
theorem bput_elem {A:Ar} {x p bf:Int} (h:(A.nd p).kind=4):A.bput x p bf=A.tput p x bf:=by unfold Ar.bput;rw[if_neg (by rw[h];intro h;exact absurd h.1 (by decide))]
section
variable {h h':AHeap} {bi a ai:Nat} {o c t:AVal} {G G' F:Nat→Prop} {b b':BS} {x:Int} {m:Nat}
variable {nm:Bytes} {av:AVal} {l:List Attr} {r:List AVal} {sp p:Int} {e:Fmt} {at_ mk last:Int} {anc far:Item}
theorem IsEnts.at (hc:IsEnts b.act c) (w:BX h bi a o c t G b) (rm:Room b m) (n:Int):Ret cx 73 [.ptr (some (bi,3)),.int .i64 n] h (.int .i64 (entC n b.act)) h:=by
 obtain⟨fs,hfs,hv⟩:=hc;have ha:=rm.act;have:=f41 w.atC hv (by rw[←hfs,List.length_map] at ha;omega) n
 rwa [entIdx_C,hfs] at this
structure BetI (h:AHeap) (bi a ai:Nat) (t:AVal) (G0:Nat→Prop) (fe:Fmt) (anc far:Item) (k N m:Nat) (s0:BS×Int×Nat) (n:Nat) (h1:AHeap) (o c:AVal) (G:Nat→Prop) (s:BS×Int×Nat):Prop where
 le:n≤N
 w:BX h1 bi a o c t G s.1
 hc:IsEnts s.1.act c
 ok:BOk s.1
 rm:Room s.1 (m+4*n)
 last:s.1.a.has s.2.1
 st:h1[ai]?=some (.cells (acells fe (entC fe.c.node s.1.act) (s.2.2:Int) anc far s.2.1))
 hn:¬own bi G ai
 x:Ext h (own2 ai bi G0) h1 (own2 ai bi G)
 hat:0≤entC fe.c.node s.1.act
 mkb:s.2.2≤1000000000
 opn:s.1.opn.take (k+n+1)=s0.1.opn.take (k+n+1)
 len:k+n+1≤s.1.opn.length
 eq:BS.betw far.node anc.node (k+1+N) k N s0=BS.betw far.node anc.node (k+1+N) k n s
 fe:s.1.a.has fe.c.node
theorem betw1_opn {blk anc:Int} {far i:Nat} {l:Int} {mk:Nat} (hi:i<b.opn.length):(BS.betw1 blk anc far i b l mk).1.opn.take i=b.opn.take i∧i≤(BS.betw1 blk anc far i b l mk).1.opn.length:=by
 have h1:(dropAt b.opn i).take i=b.opn.take i∧i≤(dropAt b.opn i).length:=by refine⟨?_,by rw[dropAt_len hi];omega⟩;unfold dropAt;rw[List.take_append_of_le_length (by rw[List.length_take];omega),List.take_take,Nat.min_self]
 unfold BS.betw1;simp only
 split
 ·exact h1
 ·split
  ·exact h1
  ·have hop:∀nm l p,(b.mkB nm l 1 p).opn=b.opn:=λnm l p=>by unfold BS.mkB;rw[if_pos hs1]
   simp only[hop];exact⟨List.take_set_of_le (Nat.le_refl i),by rw[List.length_set];omega⟩
theorem BetI.step {h1 h2:AHeap} {o1 c1 o2 c2:AVal} {G1 G2:Nat→Prop} {fe:Fmt} {k N n:Nat} {s0 s s':BS×Int×Nat} (i:BetI h bi a ai t G fe anc far k N m s0 (n+1) h1 o1 c1 G1 s) (e:s'=BS.betw1 far.node anc.node (k+1+N) (k+(n+1)) s.1 s.2.1 s.2.2)
  (w:BX h2 bi a o2 c2 t G2 s'.1) (hc:IsEnts s'.1.act c2) (st:h2[ai]?=some (.cells (acells fe (entC fe.c.node s'.1.act) (s'.2.2:Int) anc far s'.2.1))) (hn:¬own bi G2 ai) (x:Ext h1 (own2 ai bi G1) h2 (own2 ai bi G2)) (hat:0≤entC fe.c.node s'.1.act) (mk:s'.2.2≤1000000000):
  BetI h bi a ai t G fe anc far k N m s0 n h2 o2 c2 G2 s':=by
 obtain⟨ok',last',le'⟩:=betw1_ok (blk:=far.node) (anc:=anc.node) (far:=k+1+N) (i:=k+(n+1)) (m:=s.2.2) i.ok i.last;have hl:=i.len;obtain⟨op1,op2⟩:=betw1_opn (blk:=far.node) (anc:=anc.node) (far:=k+1+N) (i:=k+(n+1)) (l:=s.2.1) (mk:=s.2.2) (b:=s.1) (by omega);have rm':=betw1_room (blk:=far.node) (anc:=anc.node) (far:=k+1+N) (i:=k+(n+1)) (l:=s.2.1) (mk:=s.2.2) (m:=m+4*n) (i.rm.le (by omega));have hop:=i.opn;have eq':BS.betw far.node anc.node (k+1+N) k (n+1) s=BS.betw far.node anc.node (k+1+N) k n (BS.betw1 far.node anc.node (k+1+N) (k+(n+1)) s.1 s.2.1 s.2.2):=rfl;have eq0:=i.eq.trans eq';rw[←e] at ok' last' le' op1 op2 rm' eq0;refine⟨by have:=i.le;omega,w,hc,ok',rm',last',st,hn,i.x.trans x,hat,mk,?_,by omega,eq0,le'.has _ i.fe⟩;have:=congrArg (λl=>l.take (k+(n+1))) hop;simp only[List.take_take] at this;rw[show k+n+1=k+(n+1) by omega,op1]
 rwa [Nat.min_eq_left (by omega)] at this
theorem f121b {fe:Fmt} {k N:Nat} {s0:BS×Int×Nat} (i0:BetI h bi a ai t G fe anc far k N m s0 N h o c G s0) (hk1:1≤k) (hkl:lastIdx (isNode fe.c.node) s0.1.opn=(k:Int)) (hN:k+1+N<s0.1.opn.length):
  ∃h' o' c' G' s',Ret cx 132 [.ptr (some (bi,0)),.ptr (some (ai,0)),.int .i64 (k:Int),.int .i64 ((k+1+N:Nat):Int)] h (.tuple []) h'∧s'=BS.betw far.node anc.node (k+1+N) k N s0∧BetI h bi a ai t G fe anc far k N m s0 0 h' o' c' G' s':=by
 have ho:=i0.rm.opn;have hev:Ev cx 132 [.ptr (some (bi,0)),.ptr (some (ai,0)),.int .i64 (k:Int),.int .i64 ((k+1+N:Nat):Int)] h λr h'=>r= .tuple []∧∃o' c' G' s',s'=BS.betw far.node anc.node (k+1+N) k N s0∧BetI h bi a ai t G fe anc far k N m s0 0 h' o' c' G' s':=by
  unfold Ev;rw[t132_eq,t132];have i1:=pe_subI (a:=((k+1+N:Nat):Int)) (b:=1) (by omega) (by omega);rw[show((k+1+N:Nat):Int)-1=((k+N:Nat):Int) by omega] at i1;simp only[amS,i1];refine W_loop_st (λn:Nat=>[.int .i64 ((N-n:Nat):Int),.int .i64 ((k+n:Nat):Int)]) (λn h1=>∃o c G1 s,BetI h bi a ai t G fe anc far k N m s0 n h1 o c G1 s) (λn=>n) N (by rw[Nat.sub_self];rfl) ⟨o,c,_,s0,i0⟩ ?_;rintro n h1 ⟨o1,c1,G1,s,i⟩
  cases n with
  |zero=>simp only[amS,↓reduceIte,bxS,show¬(k:Int)<(k:Int) by omega];exact⟨_,rfl,rfl,o1,c1,G1,s,i.eq.symm,i⟩
  |succ n=>
   have hnN:=i.le;have hlen:=i.len;have hil:k+(n+1)<s.1.opn.length:=by omega
   have hwo:=i.rm.opn;have hwa:=i.rm.act;have hab:ai≠bi:=λe=>i.hn (.inl e);have hai:ai<h1.length:=(List.getElem?_eq_some_iff.1 i.st).1;have r1:=f113 i.w.sA ((k+(n+1):Nat):Int);rw[itemAt_lt hil] at r1;have hxn:=lastIdx_node i.ok.opN hil;have hxf:s.1.opn[k+(n+1)].node≠fe.c.node:=by have h2:=congrArg (λl=>l[k+(n+1)]?) i.opn;simp only[List.getElem?_take] at h2;rw[if_pos (by omega),if_pos (by omega),List.getElem?_eq_getElem hil,List.getElem?_eq_getElem (by omega)] at h2;obtain⟨_,_,h3⟩:=lastIdx_get hkl;have h4:=h3 (k+(n+1)) (by omega) (by omega);rw[Option.some.inj h2];intro h5;unfold isNode at h4;rw[h5] at h4;simp at h4
   have hgd:s.1.opn.getD (k+(n+1)) Item.zero=s.1.opn[k+(n+1)]:=by rw[List.getD_eq_getElem?_getD,List.getElem?_eq_getElem hil];rfl
   generalize s.1.opn[k+(n+1)]=x at*;have r2:=i.hc.at i.w i.rm x.node;obtain⟨q,hq,hq1,hq0,hq2,hq3⟩:=entC_get i.hat;have inc:peval (.int .add) [.int .i64 ((N-(n+1):Nat):Int),I 1]=some (.int .i64 ((N-n:Nat):Int)):=by
    have:=pe_inc (n:=N-(n+1)) (by omega)
    rwa [show N-(n+1)+1=N-n by omega] at this
   have dec:peval (.int .sub) [.int .i64 ((k+(n+1):Nat):Int),I 1]=some (.int .i64 ((k+n:Nat):Int)):=by
    have:=pe_dec (n:=k+(n+1)) (by omega) (by omega)
    rwa [show k+(n+1)-1=k+n by omega] at this
   have hgt:(k:Int)<((k+(n+1):Nat):Int):=by omega
   have hrm:∀l:List Item,l=s.1.opn→removed x.node l=dropAt l (k+(n+1)):=by intro l e;subst e;unfold removed;rw[hxn,if_neg (by omega),Int.toNat_natCast]
   by_cases he:entC x.node s.1.act<0
   ·obtain⟨u,r3,hu⟩:=f124 i.w.sO (by omega) x.node;rw[hrm _ rfl] at hu;have w2:=i.w.putO hu;have es:({s.1 with opn:=dropAt s.1.opn (k+(n+1))},s.2.1,s.2.2)=BS.betw1 far.node anc.node (k+1+N) (k+(n+1)) s.1 s.2.1 s.2.2:=by unfold BS.betw1;simp only[hgd];rw[if_pos he]
    have i2:=i.step es w2 i.hc ((put_other hab).trans i.st) i.hn (ext_own2 put_ext ai) i.hat i.mkb;by_cases hc3:(3:Int)<((N-n:Nat):Int)
    ·simp only[amS,↓reduceIte,bxS,itS,hgt,r1.call,inc,r2.call,hc3,he,show¬(0:Int)≤entC x.node s.1.act by omega,r3.call,dec];exact LoopPost.next n rfl ⟨_,_,_,_,i2⟩ (by omega)
    ·simp only[amS,↓reduceIte,bxS,itS,hgt,r1.call,inc,r2.call,hc3,he,r3.call,dec];exact LoopPost.next n rfl ⟨_,_,_,_,i2⟩ (by omega)
   ·obtain⟨p,hp,ep,hx0,hpx,hp3⟩:=entC_get (Int.not_lt.1 he);have hge:(0:Int)≤(p:Int):=by omega
    rw[ep] at r2;have hpf:s.1.act[p].node≠fe.c.node:=by rw[hpx];exact hxf
    have ept:(entC x.node s.1.act).toNat=p:=by rw[ep,Int.toNat_natCast]
    by_cases hc3:(3:Int)<((N-n:Nat):Int)
    ·obtain⟨h2,c2,r3,w2,hc2,st2,x2⟩:=f117b i.w i.hc i.rm i.st i.hn hp ⟨i.hat,by omega⟩ ⟨by omega,by have:=i.mkb;omega⟩;have rm2:Room {s.1 with act:=dropAt s.1.act p} (m+4*(n+1)):=i.rm.sub rfl (List.Sublist.refl _) dropAt_sub (Nat.le_refl _);have r4:=IsEnts.at (b:={s.1 with act:=dropAt s.1.act p}) hc2 w2 rm2 x.node;have hself:entC x.node (dropAt s.1.act p)<0:=by have:=entC_self (n:=x.node) i.ok.acN (Int.not_lt.1 he);rwa [ept] at this
     obtain⟨u,r5,hu⟩:=f124 w2.sO (by simp only;omega) x.node;rw[hrm _ rfl] at hu;have w3:=w2.putO hu;have hdown:(((if p<s.2.2 then s.2.2 -1 else s.2.2:Nat)):Int)=down p (s.2.2:Int):=by unfold down;split<;>split<;>omega
     have es:({s.1 with act:=dropAt s.1.act p,opn:=dropAt s.1.opn (k+(n+1))},s.2.1,if p<s.2.2 then s.2.2 -1 else s.2.2)=BS.betw1 far.node anc.node (k+1+N) (k+(n+1)) s.1 s.2.1 s.2.2:=by unfold BS.betw1;simp only[hgd];rw[if_neg he,if_pos (show k+(n+1)+3<k+1+N by omega),ept]
     have ent':=entC_drop i.hat hp hpf;have hd0:0≤down p (entC fe.c.node s.1.act):=by unfold down;split<;>omega
     have i2:=i.step es w3 hc2 (by rw[put_other hab,st2];simp only;rw[ent',hdown]) i.hn (x2.trans (ext_own2 put_ext ai)) (by simp only;rw[ent'];exact hd0) (by have:=i.mkb;simp only;split<;>omega);simp only[amS,↓reduceIte,bxS,itS,hgt,r1.call,inc,r2.call,hc3,hge,r3.call,r4.call,hself,r5.call,dec];exact LoopPost.next n rfl ⟨_,_,_,_,i2⟩ (by omega)
    ·obtain⟨fs,hfs,hv⟩:=i.hc;have hfl:s.1.act.length=fs.length:=by rw[←hfs,List.length_map]
     have hpf':p<fs.length:=by omega
     have efp:fs[p].c=s.1.act[p]:=by simp only[←hfs,List.getElem_map]
     have l3:=i.w.l3;have e1:=IsSl.eaddrM (k:= .i64) hv hpf';have l5:hload h1 none (.ptr (some (ai,5)))=some (.int .i64 anc.node):=At.load ⟨_,i.st,rfl⟩;obtain⟨r,r3,hr⟩:=f122b fs[p] h1;have hen:=i.rm.ents _ (List.getElem_mem hp);rw[←efp] at hen;obtain⟨h2,G2,r4,w2,x2⟩:=f67b (m:=m+4*n) i.w i.ok (i.rm.le (by omega)) hr fs[p].ok hen.2 hen.1 anc.node 1;obtain⟨ok2,f,le2⟩:=mk_ok (nm:=fs[p].c.name) (at_:=fs[p].c.attrs) (p:=anc.node) i.ok hs1;have rm2:=mk_room (m:=m+4*n+1) (nm:=fs[p].c.name) (l:=fs[p].c.attrs) (sp:=1) (p:=anc.node) (i.rm.le (by omega)) hen.2;have hop:(s.1.mkB fs[p].c.name fs[p].c.attrs 1 anc.node).opn=s.1.opn:=by unfold BS.mkB;rw[if_pos hs1]
     have hac:(s.1.mkB fs[p].c.name fs[p].c.attrs 1 anc.node).act=s.1.act:=by unfold BS.mkB;rw[if_pos hs1]
     have es0:BS.betw1 far.node anc.node (k+1+N) (k+(n+1)) s.1 s.2.1 s.2.2=({s.1.mkB fs[p].c.name fs[p].c.attrs 1 anc.node with a:=(s.1.mkB fs[p].c.name fs[p].c.attrs 1 anc.node).a.tput (s.1.mkI fs[p].c.name fs[p].c.attrs 1).node s.2.1 0,opn:=(s.1.mkB fs[p].c.name fs[p].c.attrs 1 anc.node).opn.set (k+(n+1)) (s.1.mkI fs[p].c.name fs[p].c.attrs 1),act:=(s.1.mkB fs[p].c.name fs[p].c.attrs 1 anc.node).act.set p {fs[p].c with node:=(s.1.mkI fs[p].c.name fs[p].c.attrs 1).node}},(s.1.mkI fs[p].c.name fs[p].c.attrs 1).node,if s.2.1=far.node then p+1 else s.2.2):=by unfold BS.betw1;simp only[hgd];rw[if_neg he,if_neg (by omega),ept,List.getD_eq_getElem?_getD,List.getElem?_eq_getElem hp,Option.getD_some,←efp]
     have hnn:=fresh_opn i.ok f;have hna:=fresh_act i.ok f;have hnf:(s.1.mkI fs[p].c.name fs[p].c.attrs 1).node≠fe.c.node:=λe2=>f.new (by rw[e2];exact i.fe);have hlast2:=le2.has _ i.last;have hnwn:(s.1.mkI fs[p].c.name fs[p].c.attrs 1).name.length≤1000:=mkI_name hen.1;generalize s.1.mkI fs[p].c.name fs[p].c.attrs 1=nw at*;generalize s.1.mkB fs[p].c.name fs[p].c.attrs 1 anc.node=b2 at*;have hn2:¬own bi G2 ai:=λhg=>by
      rcases x2.own ai hg with hg|hg
      ·exact i.hn hg
      ·omega
     have st2:h2[ai]?=_:=(x2.old ai hai i.hn).trans i.st;obtain⟨u1,t1,r5,hu1⟩:=f207 w2.sO (by have:=rm2.opn;omega) x.node nw;have hrep:replaced x.node nw b2.opn=b2.opn.set (k+(n+1)) nw:=by unfold replaced;rw[hop,hxn,if_neg (by omega),Int.toNat_natCast]
     rw[hrep] at hu1;have w3:=(w2.putO hu1).app (u:=t1);have x3:Ext h1 (own2 ai bi G1) (put h2 bi 2 u1++t1) (own2 ai bi G2):=(ext_own2 x2 ai).trans (ext_own2 (put_ext.trans (w2.putO hu1).ext_app) ai);have ai2:ai<h2.length:=by have:=x2.len;omega
     have st3:(put h2 bi 2 u1++t1)[ai]?=_:=(List.getElem?_append_left (by rw[put_len];exact ai2)).trans ((put_other hab).trans st2);have ai3:ai<(put h2 bi 2 u1++t1).length:=by rw[List.length_append,put_len];omega
     generalize put h2 bi 2 u1++t1=h3 at*;have hatr:=(hen.2).1;obtain⟨u2,t2,e2,he2,r6,hu2⟩:=f208 (h:=h3) (id:=bi) (o:=3) (l:=fs) ⟨c1,w3.atC,hv⟩ (by omega) x.node (e:=⟨{fs[p].c with node:=nw.node},fs[p].v,fs[p].ok⟩) (by unfold FOk;simp only;omega);have hei:entIdx x.node fs=(p:Int):=by rw[entIdx_C,hfs,ep]
     rw[hei,if_neg (by omega),Int.toNat_natCast] at hu2;have w4:=(w3.putC (u:=u2) (l:=b2.act.set p {fs[p].c with node:=nw.node})).app (u:=t2);have hc4:IsEnts (b2.act.set p {fs[p].c with node:=nw.node}) u2:=⟨_,by rw[List.map_set,hfs,he2,hac],hu2⟩;have x4:=x3.trans (ext_own2 ((put_ext (k:=3) (v:=u2)).trans (BX.ext_app (u:=t2) (w3.putC (u:=u2) (l:=b2.act.set p {fs[p].c with node:=nw.node})))) ai);have st4:(put h3 bi 3 u2++t2)[ai]?=_:=(List.getElem?_append_left (by rw[put_len];exact ai3)).trans ((put_other hab).trans st3);generalize put h3 bi 3 u2++t2=h4 at*;have ok3:=ok2.setOpn (i:=nw) (k:=k+(n+1)) ⟨f.has,f.kind,f.space,f.name⟩ (by rw[hop];exact hnn);have ok4:=ok3.setAct (e:={fs[p].c with node:=nw.node}) (k:=p) ⟨f.has,f.kind⟩ (by simp only[hac];exact hna);have rm4:Room {b2 with opn:=b2.opn.set (k+(n+1)) nw,act:=b2.act.set p {fs[p].c with node:=nw.node}} (m+4*n+1):=by
      refine⟨rm2.n,rm2.at_,rm2.data,by simp only[List.length_set];exact rm2.opn,by simp only[List.length_set];exact rm2.act,rm2.tm,λe he=>?_,λi hi=>?_⟩
      ·rcases List.mem_or_eq_of_mem_set he with he|rfl
       ·exact rm2.ents e he
       ·exact hen
      ·rcases List.mem_or_eq_of_mem_set hi with hi|rfl
       ·exact rm2.nms i hi
       ·exact hnwn
     have l13:hload h4 none (.ptr (some (ai,13)))=some (.int .i64 s.2.1):=At.load ⟨_,st4,rfl⟩;have l9:hload h4 none (.ptr (some (ai,9)))=some (.int .i64 far.node):=At.load ⟨_,st4,rfl⟩;have t4:At h4 ai 4 (.int .i64 (s.2.2:Int)):=⟨_,st4,rfl⟩;obtain⟨mk',hmk'⟩:∃mk':Nat,mk'=if s.2.1=far.node then p+1 else s.2.2:=⟨_,rfl⟩
     have e5:put h4 ai 4 (.int .i64 (mk':Int))=if s.2.1=far.node then put h4 ai 4 (.int .i64 ((p+1:Nat):Int)) else h4:=by
      rw[hmk'];split
      ·rfl
      ·exact t4.same
     have st5:=put_cells (k:=4) (v:= .int .i64 (mk':Int)) st4;have w5:BX (put h4 ai 4 (.int .i64 (mk':Int))) bi a u1 u2 t G2 {b2 with opn:=b2.opn.set (k+(n+1)) nw,act:=b2.act.set p {fs[p].c with node:=nw.node}}:=w4.frame λj hj=>put_other λe=>hn2 (e▸hj);have x5:=x4.trans (put_ext2 (k:=4) (v:= .int .i64 (mk':Int)));have ai5:ai<(put h4 ai 4 (.int .i64 (mk':Int))).length:=by have:=x5.len;omega
     have t5:hload (put h4 ai 4 (.int .i64 (mk':Int))) none (.ptr (some (ai,13)))=some (.int .i64 s.2.1):=At.load ⟨_,st5,rfl⟩;generalize hh5:put h4 ai 4 (.int .i64 (mk':Int))=h5 at*;obtain⟨h6,G6,r7,w6,x6⟩:=f38b (x:=s.2.1) (p:=nw.node) (bf:=0) w5 ok4 rm4;rw[bput_elem (by exact f.kind)] at w6;have hn6:¬own bi G6 ai:=λhg=>by
      rcases x6.own ai hg with hg|hg
      ·exact hn2 hg
      ·omega
     have st6:h6[ai]?=_:=(x6.old ai ai5 hn2).trans st5;have t6:At h6 ai 13 (.int .i64 s.2.1):=⟨_,st6,rfl⟩;have st7:=put_cells (k:=13) (v:= .int .i64 nw.node) st6;have w7:BX (put h6 ai 13 (.int .i64 nw.node)) bi a u1 u2 t G6 _:=w6.frame λj hj=>put_other λe=>hn6 (e▸hj);have x7:=(x5.trans (ext_own2 x6 ai)).trans (put_ext2 (k:=13) (v:= .int .i64 nw.node));have hent:entC fe.c.node (b2.act.set p {fs[p].c with node:=nw.node})=entC fe.c.node s.1.act:=by rw[hac];exact entC_set i.hat hp hpf hnf
     rw[←hmk'] at es0;have i2:=i.step es0.symm w7 hc4 (by simp only;rw[st7,hent];rfl) hn6 x7 (by simp only;rw[hent];exact i.hat) (by simp only;rw[hmk'];have:=i.mkb;split<;>omega);have hv3:fs[p].v.cells=[fs[p].v]:=IsSl.cells fs[p].ok;have incp:=pe_inc (show p<9223372036854775807 by omega);have r6':Ret cx 176 [.ptr (some (bi,3)),.int .i64 x.node,.agg [.int .i64 nw.node,.str fs[p].c.name,fs[p].v]] h3 (.bool (decide (0≤entIdx x.node fs))) h4:=r6;rw[Fmt.row] at e1 r3;by_cases hlf:s.2.1=far.node
     ·rw[if_pos hlf] at e5;have s5:hstore h4 1 (.ptr (some (ai,4))) (.int .i64 ((p+1:Nat):Int))=some h5:=by rw[e5];exact t4.store rfl
      simp only[amS,Nat.reduceLeDiff,↓reduceIte,fillAt,bxS,itS,hgt,r1.call,inc,r2.call,hc3,hge,show¬(p:Int)<0 by omega,l3,e1,l5,r3.call,W_same_self,r4.call,r5.call,hv3,r6'.call,l13,l9,eq_true hlf,incp,s5,t5,r7.call,t6.store (u:= .int .i64 nw.node) rfl,dec];exact LoopPost.next n rfl ⟨_,_,_,_,i2⟩ (by omega)
     ·rw[if_neg hlf] at e5;subst e5;simp only[amS,Nat.reduceLeDiff,↓reduceIte,fillAt,bxS,itS,hgt,r1.call,inc,r2.call,hc3,hge,show¬(p:Int)<0 by omega,l3,e1,l5,r3.call,W_same_self,r4.call,r5.call,hv3,r6'.call,l13,l9,hlf,r7.call,t6.store (u:= .int .i64 nw.node) rfl,dec];exact LoopPost.next n rfl ⟨_,_,_,_,i2⟩ (by omega)
 obtain⟨r,h',hr,rfl,o',c',G',s',e',i'⟩:=hev.ret;exact⟨h',o',c',G',s',hr,e',i'⟩
end
end Go.Am
end
