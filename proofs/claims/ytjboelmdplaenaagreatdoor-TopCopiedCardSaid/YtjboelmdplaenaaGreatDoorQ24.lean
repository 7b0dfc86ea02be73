/- Lemmas -/
import Derived.Test.YtjboelmdplaenaaGreatDoorQ23
set_option linter.unusedVariables false
set_option linter.unusedSimpArgs false
section
namespace Go.Am
open Go
set_option maxRecDepth 100000
section
section
variable {α:Type} {z:Nat}
theorem flat_len {rows:List (List α)} (h:∀r∈rows,r.length=z):rows.flatten.length=rows.length*z:=by
 induction rows with
 |nil=>simp
 |cons q rows ih=>rw[List.flatten_cons,List.length_append,h q (by simp),ih λr hr=>h r (by simp[hr]),List.length_cons,Nat.add_mul];omega
theorem flat_take {rows:List (List α)} (h:∀r∈rows,r.length=z):∀{k:Nat},rows.flatten.take (k*z)=(rows.take k).flatten:=by
 induction rows with
 |nil=>intro k;simp
 |cons q rows ih=>
  intro k;have hq:=h q (by simp)
  cases k with
  |zero=>simp
  |succ k=>rw[List.flatten_cons,Nat.add_mul,Nat.one_mul,Nat.add_comm,List.take_append,List.take_of_length_le (by omega),hq,Nat.add_sub_cancel_left,ih λr hr=>h r (by simp[hr])];simp
theorem flat_drop {rows:List (List α)} (h:∀r∈rows,r.length=z):∀{k:Nat},rows.flatten.drop (k*z)=(rows.drop k).flatten:=by
 induction rows with
 |nil=>intro k;simp
 |cons q rows ih=>
  intro k;have hq:=h q (by simp)
  cases k with
  |zero=>simp
  |succ k=>rw[List.flatten_cons,Nat.add_mul,Nat.one_mul,Nat.add_comm,List.drop_append,List.drop_of_length_le (by omega),hq,Nat.add_sub_cancel_left,ih λr hr=>h r (by simp[hr])];simp
theorem flat_set {rows:List (List α)} (h:∀r∈rows,r.length=z) {k:Nat} (hk:k<rows.length) (q:List α):rows.flatten.take (k*z)++q++rows.flatten.drop (k*z+z)=(rows.set k q).flatten:=by
 have e:k*z+z=(k+1)*z:=by grind
 rw[e,flat_take h,flat_drop h,List.set_eq_take_append_cons_drop,if_pos hk];simp
theorem flat_rows {rows:List (List AVal)} (h:∀r∈rows,r.length=z):∀{n off:Nat},off+n≤rows.length→rowsFrom rows.flatten z (off*z) n=(rows.drop off).take n:=by
 intro n
 induction n with
 |zero=>intro off _;simp[rowsFrom]
 |succ n ih=>
  intro off hl;rw[rowsFrom];have e:off*z+z=(off+1)*z:=by rw[Nat.add_mul,Nat.one_mul]
  rw[e,ih (by omega),flat_drop h];have hlt:off<rows.length:=by omega
  rw[List.drop_eq_getElem_cons hlt,List.flatten_cons,List.take_append_of_le_length (by rw[h _ (List.getElem_mem hlt)];exact Nat.le_refl _),List.take_of_length_le (by rw[h _ (List.getElem_mem hlt)];exact Nat.le_refl _),List.take_succ_cons]
theorem flat_all {rows:List (List AVal)} (h:∀r∈rows,r.length=z):rowsFrom rows.flatten z 0 rows.length=rows:=by
 have:=flat_rows h (n:=rows.length) (off:=0) (by omega)
 grind
end
section
variable {h:AHeap} {id z n:Nat} {rows:List (List AVal)}
theorem hfrz_rows (hr:∀r∈rows,r.length=z) (hc:h[id]?=some (.cells rows.flatten)):hfrz h (.msl id 0 rows.length z)=some (h.set id .dead,.sl z rows):=by unfold hfrz;simp only[hc,Nat.zero_add];rw[if_pos (by rw[flat_len hr];exact Nat.le_refl _),flat_all hr]
theorem eaddr_msl {k:IntKind} {i:Nat} (hi:i<n):peval (.eaddr z) [.msl id 0 n z,.int k (i:Int)]=some (.ptr (some (id,i*z))):=by
 have:idxOf (i:Int) n=some i:=by unfold idxOf;rw[if_pos (by omega)];rfl
 simp[peval,elemOf,this]
theorem map_rows {α:Type} {f:α→List AVal} (hf:∀a,(f a).length=z) (l:List α):∀r∈l.map f,r.length=z:=by simp_all
theorem hobjOf_some {s v:AVal} {b:Nat} (hs:s= .slnil∨s= .sl z []) (hv:IsSl z rows v) (hne:rows≠[]) (hb:rows.length*b≤maxBytes):hobjOf h z b s v=some (h++[.cells rows.flatten],.msl h.length 0 rows.length z):=by
 rcases hv with rfl|⟨rfl,hv⟩
 ·cases rows with
  |nil=>exact absurd rfl hne
  |cons r rows=>rw[List.length_cons] at hb;rcases hs with rfl|rfl<;>simp[hobjOf,noRows,hb]
 ·exact absurd hv hne
theorem hgrow_some {v:AVal} {b:Nat} {r2:List (List AVal)} (hr:∀r∈rows,r.length=z) (hz:0<z) (hc:h[id]?=some (.cells rows.flatten)) (hv:IsSl z r2 v) (hne:r2≠[]) (hb:(rows.length+r2.length)*b≤maxBytes):
  hgrow h z b (.msl id 0 rows.length z) v=some (h.set id .dead++[.cells (rows++r2).flatten],.msl h.length 0 (rows.length+r2.length) z):=by
 rcases hv with rfl|⟨rfl,hv⟩
 ·cases r2 with
  |nil=>exact absurd rfl hne
  |cons r r2=>
   have hl:=flat_len hr;have h1:¬(0+(rows.length+(r::r2).length)*z≤rows.flatten.length):=by simp_all
   unfold hgrow;simp only[rowsAt,if_true,hc]
   grind
 ·exact absurd hv hne
end
end
section
def wordsFrom:Bytes→Bytes→List Bytes
 |cur,[]=>[cur]
 |cur,c::r=>if c=32 then cur::wordsFrom [] r else wordsFrom (cur++[c]) r
def implieds:List Bytes:=[[100,100],[100,116],[108,105],[111,112,116,103,114,111,117,112],[111,112,116,105,111,110],[112],[114,98],[114,112],[114,116],[114,116,99]]
def mathPoints:List Bytes:=[[109,105],[109,110],[109,111],[109,115],[109,116,101,120,116]]
def svgPoints:List Bytes:=[[100,101,115,99],[102,111,114,101,105,103,110,79,98,106,101,99,116],[116,105,116,108,101]]
def specials:List Bytes:=wordsFrom [] [97,100,100,114,101,115,115,32,97,112,112,108,101,116,32,97,114,101,97,32,97,114,116,105,99,108,101,32,97,115,105,100,101,32,98,97,115,101,32,98,97,115,101,102,111,110,116,32,98,103,115,111,117,110,100,32,98,108,111,99,107,113,117,111,116,101,32,98,111,100,121,32,98,114,32,98,117,116,116,111,110,32,99,97,112,116,105,111,110,32,99,101,110,116,101,114,32,99,111,108,32,99,111,108,103,114,111,117,112,32,100,100,32,100,101,116,97,105,108,115,32,100,105,114,32,100,105,118,32,100,108,32,100,116,32,101,109,98,101,100,32,102,105,101,108,100,115,101,116,32,102,105,103,99,97,112,116,105,111,110,32,102,105,103,117,114,101,32,102,111,111,116,101,114,32,102,111,114,109,32,102,114,97,109,101,32,102,114,97,109,101,115,101,116,32,104,49,32,104,50,32,104,51,32,104,52,32,104,53,32,104,54,32,104,101,97,100,32,104,101,97,100,101,114,32,104,103,114,111,117,112,32,104,114,32,104,116,109,108,32,105,102,114,97,109,101,32,105,109,103,32,105,110,112,117,116,32,107,101,121,103,101,110,32,108,105,32,108,105,110,107,32,108,105,115,116,105,110,103,32,109,97,105,110,32,109,97,114,113,117,101,101,32,109,101,110,117,32,109,101,116,97,32,110,97,118,32,110,111,101,109,98,101,100,32,110,111,102,114,97,109,101,115,32,110,111,115,99,114,105,112,116,32,111,98,106,101,99,116,32,111,108,32,112,32,112,97,114,97,109,32,112,108,97,105,110,116,101,120,116,32,112,114,101,32,115,99,114,105,112,116,32,115,101,97,114,99,104,32,115,101,99,116,105,111,110,32,115,101,108,101,99,116,32,115,111,117,114,99,101,32,115,116,121,108,101,32,115,117,109,109,97,114,121,32,116,97,98,108,101,32,116,98,111,100,121,32,116,100,32,116,101,109,112,108,97,116,101,32,116,101,120,116,97,114,101,97,32,116,102,111,111,116,32,116,104,32,116,104,101,97,100,32,116,105,116,108,101,32,116,114,32,116,114,97,99,107,32,117,108,32,119,98,114,32,120,109,112]
def isSpecial (k:Int) (s:Bytes):Bool:=
 if k=3 then decide (s=[97,110,110,111,116,97,116,105,111,110,45,120,109,108]∨s∈mathPoints) else if k=2 then decide (s∈svgPoints) else if k=1 then decide (s∈specials) else false
def sw (s:Bytes) (t e:IT):List Bytes→IT
 |[]=>e
 |c::cs=> .op (.str .eql) [.str s,.str c] λv=> .cnd v t (sw s t e cs)
theorem wout {C:Ctx} {f:FuncId} {args:List AVal} {r:AVal}:PRet C f args r↔W C (afun C f args) (λx vs _=>x= .ret∧vs=[r]) []:=by
 unfold PRet Ev
 grind
section
variable {Q:Post} {h:AHeap} {k:AVal→IT} {s:Bytes}
end
section
variable {Q:Post} {h:AHeap} {k:AVal→IT} {s:Bytes} {n:Int}
end
section
variable {Q:Post} {h:AHeap} {k:AVal→IT} {s:Bytes} {n:Int}
end
end
section
end
section
section
variable {Q:Post} {h:AHeap} {k:AVal→IT} {s:Bytes}
def rSvgNames:List Bytes:=wordsFrom [] [97,108,116,71,108,121,112,104,32,97,108,116,71,108,121,112,104,68,101,102,32,97,108,116,71,108,121,112,104,73,116,101,109,32,97,110,105,109,97,116,101,67,111,108,111,114,32,97,110,105,109,97,116,101,77,111,116,105,111,110,32,97,110,105,109,97,116,101,84,114,97,110,115,102,111,114,109,32,99,108,105,112,80,97,116,104,32,102,101,66,108,101,110,100,32,102,101,67,111,108,111,114,77,97,116,114,105,120,32,102,101,67,111,109,112,111,110,101,110,116,84,114,97,110,115,102,101,114,32,102,101,67,111,109,112,111,115,105,116,101,32,102,101,67,111,110,118,111,108,118,101,77,97,116,114,105,120,32,102,101,68,105,102,102,117,115,101,76,105,103,104,116,105,110,103,32,102,101,68,105,115,112,108,97,99,101,109,101,110,116,77,97,112,32,102,101,68,105,115,116,97,110,116,76,105,103,104,116,32,102,101,68,114,111,112,83,104,97,100,111,119,32,102,101,70,108,111,111,100,32,102,101,70,117,110,99,65,32,102,101,70,117,110,99,66,32,102,101,70,117,110,99,71,32,102,101,70,117,110,99,82,32,102,101,71,97,117,115,115,105,97,110,66,108,117,114,32,102,101,73,109,97,103,101,32,102,101,77,101,114,103,101,32,102,101,77,101,114,103,101,78,111,100,101,32,102,101,77,111,114,112,104,111,108,111,103,121,32,102,101,79,102,102,115,101,116,32,102,101,80,111,105,110,116,76,105,103,104,116,32,102,101,83,112,101,99,117,108,97,114,76,105,103,104,116,105,110,103,32,102,101,83,112,111,116,76,105,103,104,116,32,102,101,84,105,108,101,32,102,101,84,117,114,98,117,108,101,110,99,101,32,102,111,114,101,105,103,110,79,98,106,101,99,116,32,103,108,121,112,104,82,101,102,32,108,105,110,101,97,114,71,114,97,100,105,101,110,116,32,114,97,100,105,97,108,71,114,97,100,105,101,110,116,32,116,101,120,116,80,97,116,104]
def rSvgAttrs:List Bytes:=wordsFrom [] [97,116,116,114,105,98,117,116,101,78,97,109,101,32,97,116,116,114,105,98,117,116,101,84,121,112,101,32,98,97,115,101,70,114,101,113,117,101,110,99,121,32,98,97,115,101,80,114,111,102,105,108,101,32,99,97,108,99,77,111,100,101,32,99,108,105,112,80,97,116,104,85,110,105,116,115,32,100,105,102,102,117,115,101,67,111,110,115,116,97,110,116,32,101,100,103,101,77,111,100,101,32,102,105,108,116,101,114,85,110,105,116,115,32,103,108,121,112,104,82,101,102,32,103,114,97,100,105,101,110,116,84,114,97,110,115,102,111,114,109,32,103,114,97,100,105,101,110,116,85,110,105,116,115,32,107,101,114,110,101,108,77,97,116,114,105,120,32,107,101,114,110,101,108,85,110,105,116,76,101,110,103,116,104,32,107,101,121,80,111,105,110,116,115,32,107,101,121,83,112,108,105,110,101,115,32,107,101,121,84,105,109,101,115,32,108,101,110,103,116,104,65,100,106,117,115,116,32,108,105,109,105,116,105,110,103,67,111,110,101,65,110,103,108,101,32,109,97,114,107,101,114,72,101,105,103,104,116,32,109,97,114,107,101,114,85,110,105,116,115,32,109,97,114,107,101,114,87,105,100,116,104,32,109,97,115,107,67,111,110,116,101,110,116,85,110,105,116,115,32,109,97,115,107,85,110,105,116,115,32,110,117,109,79,99,116,97,118,101,115,32,112,97,116,104,76,101,110,103,116,104,32,112,97,116,116,101,114,110,67,111,110,116,101,110,116,85,110,105,116,115,32,112,97,116,116,101,114,110,84,114,97,110,115,102,111,114,109,32,112,97,116,116,101,114,110,85,110,105,116,115,32,112,111,105,110,116,115,65,116,88,32,112,111,105,110,116,115,65,116,89,32,112,111,105,110,116,115,65,116,90,32,112,114,101,115,101,114,118,101,65,108,112,104,97,32,112,114,101,115,101,114,118,101,65,115,112,101,99,116,82,97,116,105,111,32,112,114,105,109,105,116,105,118,101,85,110,105,116,115,32,114,101,102,88,32,114,101,102,89,32,114,101,112,101,97,116,67,111,117,110,116,32,114,101,112,101,97,116,68,117,114,32,114,101,113,117,105,114,101,100,69,120,116,101,110,115,105,111,110,115,32,114,101,113,117,105,114,101,100,70,101,97,116,117,114,101,115,32,115,112,101,99,117,108,97,114,67,111,110,115,116,97,110,116,32,115,112,101,99,117,108,97,114,69,120,112,111,110,101,110,116,32,115,112,114,101,97,100,77,101,116,104,111,100,32,115,116,97,114,116,79,102,102,115,101,116,32,115,116,100,68,101,118,105,97,116,105,111,110,32,115,116,105,116,99,104,84,105,108,101,115,32,115,117,114,102,97,99,101,83,99,97,108,101,32,115,121,115,116,101,109,76,97,110,103,117,97,103,101,32,116,97,98,108,101,86,97,108,117,101,115,32,116,97,114,103,101,116,88,32,116,97,114,103,101,116,89,32,116,101,120,116,76,101,110,103,116,104,32,118,105,101,119,66,111,120,32,118,105,101,119,84,97,114,103,101,116,32,120,67,104,97,110,110,101,108,83,101,108,101,99,116,111,114,32,121,67,104,97,110,110,101,108,83,101,108,101,99,116,111,114,32,122,111,111,109,65,110,100,80,97,110]
def rTables:List Bytes:=[[104,116,109,108],[116,97,98,108,101],[116,101,109,112,108,97,116,101]]
def rSelects:List Bytes:=[[111,112,116,103,114,111,117,112],[111,112,116,105,111,110]]
def rLists:List Bytes:=[[111,108],[117,108]]
def rBounds:List Bytes:=[[97,112,112,108,101,116],[99,97,112,116,105,111,110],[104,116,109,108],[109,97,114,113,117,101,101],[111,98,106,101,99,116],[116,97,98,108,101],[116,100],[116,101,109,112,108,97,116,101],[116,104]]
end
section
variable {Q:Post} {h:AHeap} {k:AVal→IT} {s:Bytes} {n:Int}
end
end
section
def lowerByte (c:UInt8):UInt8:=if 65≤c.toNat∧c.toNat≤90 then c+32 else c
def lower (s:Bytes):Bytes:=s.map lowerByte
theorem lowerByte_up {c:UInt8} (h:65≤c.toNat∧c.toNat≤90):((lowerByte c).toNat:Int)=(c.toNat:Int)+32:=by
 unfold lowerByte;rw[if_pos h,UInt8.toNat_add]
 grind
theorem lowerByte_no {c:UInt8} (h:¬(65≤c.toNat∧c.toNat≤90)):lowerByte c=c:=by unfold lowerByte;rw[if_neg h]
theorem lower_snoc {s:Bytes} {n:Nat} (hn:n<s.length):lower (s.take (n+1))=lower (s.take n)++[lowerByte s[n]]:=by rw[List.take_succ_eq_append_getElem hn];unfold lower;rw[List.map_append];rfl
def byteV (b:UInt8):AVal:= .int .u8 (b.toNat:Int)
def halfLow (s:Bytes) (n:Nat):Bytes:=lower (s.take n)++s.drop n
theorem halfLow_length (s:Bytes) (n:Nat):(halfLow s n).length=s.length:=by simp[halfLow,lower];omega
theorem halfLow_at {s:Bytes} {n:Nat} (hn:n<s.length):(halfLow s n)[n]?=some s[n]:=by
 unfold halfLow lower
 grind
theorem halfLow_succ {s:Bytes} {n:Nat} (hn:n<s.length):halfLow s (n+1)=(halfLow s n).set n (lowerByte s[n]):=by
 unfold halfLow;rw[lower_snoc hn,List.set_append_right _ _ (by simp[lower];omega)];have e:n-(lower (s.take n)).length=0:=by simp[lower];omega
 rw[e,List.drop_eq_getElem_cons hn,List.set_cons_zero,List.append_assoc];rfl
theorem halfLow_all (s:Bytes):halfLow s s.length=lower s:=by simp[halfLow,lower]
theorem set_same {α:Type} {l:List α} {i:Nat} {v:α} (h:l[i]?=some v):l.set i v=l:=by
 apply List.ext_getElem?
 grind
theorem hload_cell {cs:List AVal} {i:Nat} {v:AVal} (h:cs[i]?=some v):hload [.cells cs] none (.ptr (some (0,i)))=some v:=by simpa[hload] using h
theorem set_take_drop {α:Type} {l:List α} {i:Nat} {v:α} (h:i<l.length):l.take i++v::l.drop (i+1)=l.set i v:=by rw[List.set_eq_take_append_cons_drop,if_pos h]
theorem hstore_cell {cs:List AVal} {i:Nat} {v:AVal} (h:i<cs.length) (hv:v.cells=[v]):hstore [.cells cs] 1 (.ptr (some (0,i))) v=some [.cells (cs.set i v)]:=by simp only[hstore,hv,List.getElem?_cons_zero,List.length_singleton];rw[if_pos ⟨trivial,by omega⟩,←set_take_drop h];simp
theorem rowsFrom_bytes (s:Bytes):∀(n o:Nat),o+n=s.length→rowsFrom (s.map byteV) 1 o n=rowsOf (s.drop o)
 |0,o,h=>by rw[List.drop_of_length_le (by omega)];rfl
 |n+1,o,h=>by
  have ho:o<s.length:=by omega
  have e:(s.map byteV).drop o=byteV s[o]::(s.map byteV).drop (o+1):=by rw[List.drop_eq_getElem_cons (by simpa using ho)];simp
  rw[rowsFrom,rowsFrom_bytes s n (o+1) (by omega),List.drop_eq_getElem_cons ho,e];rfl
end
section
def adjustedIn (name:Bytes):List Bytes→Bytes
 |[]=>name
 |w::ws=>if lower w=name then w else adjustedIn name ws
end
section
structure Attr where
 space:Int
 name:Bytes
 value:Bytes
 deriving DecidableEq
def Attr.row (a:Attr):List AVal:=[.int .i64 a.space,.str a.name,.str a.value]
structure Item where
 node:Int
 space:Int
 name:Bytes
 point:Bool
 deriving DecidableEq
def Item.row (a:Item):List AVal:=[.int .i64 a.node,.int .i64 a.space,.str a.name,.bool a.point]
def IsAttrs (l:List Attr) (v:AVal):Prop:=IsSl 3 (l.map Attr.row) v
def IsItems (l:List Item) (v:AVal):Prop:=IsSl 4 (l.map Item.row) v
def attrsOk (l:List Attr):Prop:=l.length≤12∧∀x∈l,x.name.length≤60∧x.value.length≤200
instance (l:List Attr):Decidable (attrsOk l):=by unfold attrsOk;infer_instance
def strsOk (l:List Bytes):Prop:=l.length≤12∧∀x∈l,x.length≤60
instance (l:List Bytes):Decidable (strsOk l):=by unfold strsOk;infer_instance
def itemsOk (l:List Item):Prop:=l.length≤60∧∀x∈l,x.name.length≤60
instance (l:List Item):Decidable (itemsOk l):=by unfold itemsOk;infer_instance
end
section
def idxFrom {α:Type} (p:α→Bool) (n:Nat):List α→Int
 |[]=> -1
 |a::l=>if p a then(n:Int) else idxFrom p (n+1) l
theorem idxFrom_find {α:Type} {p:α→Bool}:∀{l:List α} {k:Nat},(idxFrom p k l= -1∧l.find? p=none)∨∃(n:Nat) (a:α),idxFrom p k l=((k+n:Nat):Int)∧l[n]?=some a∧l.find? p=some a
 |[],k=> .inl ⟨rfl,rfl⟩
 |a::l,k=>by
  unfold idxFrom;by_cases h:p a=true
  ·grind
  ·rw[if_neg h];rcases idxFrom_find (p:=p) (l:=l) (k:=k+1) with⟨h1,h2⟩|⟨n,b,h1,h2,h3⟩
   ·grind
   ·exact .inr ⟨n+1,b,by rw[h1];congr 1;omega,by simpa using h2,by simp[h,h3]⟩
def isEnc (a:Attr):Bool:=decide (a.space=0∧a.name=[101,110,99,111,100,105,110,103])
abbrev wAnno:Bytes:=[97,110,110,111,116,97,116,105,111,110,45,120,109,108]
abbrev wHtml:Bytes:=[116,101,120,116,47,104,116,109,108]
abbrev wXhtml:Bytes:=[97,112,112,108,105,99,97,116,105,111,110,47,120,104,116,109,108,43,120,109,108]
def htmlPoint (n:Int) (s:Bytes) (l:List Attr):Bool:=
 if n=2 then isSpecial 2 s else if n≠3 then false else if s≠wAnno then false else match l.find? isEnc with
  |none=>false
  |some a=>decide (lower a.value=wHtml∨lower a.value=wXhtml)
end
section
section
variable {α:Type} {f:α→List AVal} {l l2:List α} {v v2:AVal} {z b:Nat} {k k2:IntKind}
theorem IsSl.lenM (hv:IsSl z (l.map f) v):peval (.len false) [v]=some (.int .i64 (l.length:Int)):=by have:=IsSl.len hv;rwa [List.length_map] at this
theorem IsSl.eaddrM (hv:IsSl z (l.map f) v) {n:Nat} (hn:n<l.length):peval (.eaddr z) [v,.int k (n:Int)]=some (.rptr (f l[n])):=by have:=IsSl.eaddr hv (k:=k) (by simpa using hn);simpa using this
theorem IsSl.slcHi (hv:IsSl z (l.map f) v) {n:Nat} (hn:n≤l.length):∃u,peval (.slc z false false true) [v,.int k (n:Int)]=some u∧IsSl z ((l.take n).map f) u:=by
 rcases hv with rfl|⟨rfl,h⟩
 ·have e1:bound (n:Int) (l.map f).length=some n:=by unfold bound;rw[List.length_map,if_pos (by omega)];rfl
  refine⟨.sl z ((l.map f).take n),?_,.inl (by rw[List.map_take])⟩;simp only[peval,sliceOf,boundsOf,e1,Option.map_some,and_self,if_true,List.drop_zero]
 ·have:l=[]:=by simpa using h
  subst this;have:n=0:=by simpa using hn
  subst this;exact⟨.slnil,rfl,.inr ⟨rfl,rfl⟩⟩
theorem IsSl.slcLo (hv:IsSl z (l.map f) v) {n:Nat} (hn:n≤l.length):∃u,peval (.slc z false true false) [v,.int k (n:Int)]=some u∧IsSl z ((l.drop n).map f) u:=by
 rcases hv with rfl|⟨rfl,h⟩
 ·have e1:bound (n:Int) (l.map f).length=some n:=by unfold bound;rw[List.length_map,if_pos (by omega)];rfl
  refine⟨.sl z ((l.map f).drop n),?_,.inl (by rw[List.map_drop])⟩;simp only[peval,sliceOf,boundsOf,e1,Option.map_some,and_self,if_true,List.take_length]
 ·have:l=[]:=by simpa using h
  subst this;have:n=0:=by simpa using hn
  subst this;exact⟨.slnil,rfl,.inr ⟨rfl,rfl⟩⟩
theorem IsSl.app1M {a:α} (hv:IsSl z (l.map f) v) (hb:(l.length+1)*b≤maxBytes):peval (.append z b) [v,.sl z [f a]]=some (.sl z ((l++[a]).map f)):=by rw[IsSl.app1 hv (by simpa using hb)];simp
end
theorem pe_subI {a b:Int} (h1: -9223372036854775808≤a-b) (h2:a-b<9223372036854775808):peval (.int .sub) [.int .i64 a,.int .i64 b]=some (.int .i64 (a-b)):=by rw[pe_sub,wrap_i64 h1 h2]
theorem pe_subN (a b:Int) (h1: -9223372036854775808≤a-b:=by omega) (h2:a-b<9223372036854775808:=by omega):peval (.int .sub) [.int .i64 a,.int .i64 b]=some (.int .i64 (a-b)):=pe_subI h1 h2
theorem pe_addI {a b:Int} (h1: -9223372036854775808≤a+b) (h2:a+b<9223372036854775808):peval (.int .add) [.int .i64 a,.int .i64 b]=some (.int .i64 (a+b)):=by rw[pe_add,wrap_i64 h1 h2]
def Item.zero:Item:=⟨0,0,[],false⟩
theorem Item.g0 {a:Item} {d:AVal}:a.row.getD 0 d= .int .i64 a.node:=rfl
theorem Item.g1 {a:Item} {d:AVal}:a.row.getD 1 d= .int .i64 a.space:=rfl
theorem Item.g2 {a:Item} {d:AVal}:a.row.getD 2 d= .str a.name:=rfl
theorem Item.g3 {a:Item} {d:AVal}:a.row.getD 3 d= .bool a.point:=rfl
def itemAt (l:List Item) (i:Int):Item:=if 0≤i then l.getD i.toNat Item.zero else Item.zero
def topOf (l:List Item):Item:=itemAt l ((l.length:Int)-1)
def lastIdx {α:Type} (q:α→Bool) (l:List α):Int:=match l.reverse.findIdx? q with
 |some k=>(l.length:Int)-1 -k
 |none=> -1
def At (h:AHeap) (id o:Nat) (v:AVal):Prop:=∃cs,h[id]?=some (.cells cs)∧cs[o]?=some v
def put (h:AHeap) (id o:Nat) (u:AVal):AHeap:=match h[id]? with
 |some (.cells cs)=>h.set id (.cells (cs.set o u))
 |_=>h
section
variable {h t:AHeap} {id o:Nat} {u v w:AVal}
theorem put_of {cs:List AVal} (hc:h[id]?=some (.cells cs)):put h id o u=h.set id (.cells (cs.set o u)):=by unfold put;rw[hc]
theorem At.load (ha:At h id o v):hload h none (.ptr (some (id,o)))=some v:=by obtain⟨cs,hc,e⟩:=ha;simp only[hload,hc,partOf_none,e]
theorem At.store (ha:At h id o v) (hu:u.cells=[u]):hstore h 1 (.ptr (some (id,o))) u=some (put h id o u):=by
 obtain⟨cs,hc,e⟩:=ha;have hl:=(List.getElem?_eq_some_iff.1 e).1;rw[put_of hc];simp only[hstore,hc,hu,List.length_singleton,true_and];have e2:cs.set o u=cs.take o++[u]++cs.drop (o+1):=by rw[List.set_eq_take_append_cons_drop,if_pos hl];simp
 grind
theorem At.put (ha:At h id o v):At (put h id o u) id o u:=by obtain⟨cs,hc,e⟩:=ha;have hl:=(List.getElem?_eq_some_iff.1 e).1;have hi:=(List.getElem?_eq_some_iff.1 hc).1;rw[put_of hc];exact⟨cs.set o u,by simp[hi],by simp[hl]⟩
theorem At.same (ha:At h id o v):Am.put h id o v=h:=by obtain⟨cs,hc,e⟩:=ha;obtain⟨hl,e⟩:=List.getElem?_eq_some_iff.1 e;obtain⟨hi,e2⟩:=List.getElem?_eq_some_iff.1 hc;rw[put_of hc,←e,List.set_getElem_self,←e2,List.set_getElem_self]
theorem put_other {i:Nat} (hn:i≠id):(Am.put h id o u)[i]?=h[i]?:=by
 unfold Am.put;split
 ·grind
 ·rfl
end
def SAt (h:AHeap) (p:AVal) (l:List Item):Prop:=(p= .ptr none∧l=[])∨∃id o v,p= .ptr (some (id,o))∧At h id o v∧IsItems l v
section
variable {h:AHeap} {p:AVal} {l:List Item}
def isOne (ws:List Bytes) (a:Item):Bool:=decide (a.space=1∧a.name∈ws)
def ends (n:Int) (a:Item):Bool:=
 if n=4 then isOne rTables a else if n=5 then !isOne rSelects a else if a.space=3∨a.space=2 then isSpecial a.space a.name
 else isOne rBounds a||(decide (n=2)&&isOne rLists a)||(decide (n=3)&&isOne [[98,117,116,116,111,110]] a)
def inSc {α:Type} (q e:α→Bool):List α→Bool
 |[]=>false
 |a::r=>if q a then true else if e a then false else inSc q e r
def isNode (node:Int) (a:Item):Bool:=decide (a.node=node)
end
end
section
section
variable {h:AHeap} {p v:AVal} {l:List Item}
def SObj (h:AHeap) (id o:Nat) (l:List Item):Prop:=∃v,At h id o v∧IsItems l v
theorem SObj.at {id o:Nat} (hs:SObj h id o l):SAt h (.ptr (some (id,o))) l:=let⟨v,h1,h2⟩:=hs; .inr ⟨id,o,v,rfl,h1,h2⟩
def special (a:Item):Bool:=isSpecial a.space a.name
def furthest (node:Int) (l:List Item):Int:=if lastIdx (isNode node) l<0 then -1 else match(l.drop ((lastIdx (isNode node) l).toNat+1)).findIdx? special with
 |some k=>lastIdx (isNode node) l+1+k
 |none=> -1
end
end
section
theorem Ev.ret {C:Ctx} {f:FuncId} {args:List AVal} {h:AHeap} {R:AVal→AHeap→Prop} (hw:Ev C f args h R):∃r h',Ret C f args h r h'∧R r h':=by obtain⟨n,x,vs,h',e,hx,r,hv,hR⟩:=hw;exact⟨r,h',ret_iff.2 ⟨n,x,vs,h',e,hx,hv,rfl⟩,hR⟩
def popsR (b a:Item→Bool):List Item→List Item
 |x::y::r=>if b x then x::y::r else if a x then y::r else popsR b a (y::r)
 |r=>r
def pops (b a:Item→Bool) (l:List Item):List Item:=(popsR b a l.reverse).reverse
section
variable {h:AHeap} {p v:AVal} {l:List Item}
def never (_:Item):Bool:=false
def unimplied (s:Bytes) (a:Item):Bool:=decide (a.space≠1∨a.name∉implieds∨a.name=s)
def popNode (node:Int) (l:List Item):List Item:=if lastIdx (isNode node) l<0 then l else pops never (isNode node) l
end
end
section
section
variable {h:AHeap} {p v:AVal} {l:List Item}
def dropAt {α:Type} (l:List α) (k:Nat):List α:=l.take k++l.drop (k+1)
def removed (node:Int) (l:List Item):List Item:=if lastIdx (isNode node) l<1 then l else dropAt l (lastIdx (isNode node) l).toNat
def insertPos (i:Int) (n:Nat):Nat:=min (max i 1).toNat n
end
end
section
theorem itemsOk.few {l:List Item} (h:itemsOk l):l.length≤1000000000:=by have:=h.1;omega
theorem strsOk.few {l:List Bytes} (h:strsOk l):l.length≤1000000000:=by have:=h.1;omega
end
section
section
variable {h:AHeap} {p v w:AVal} {l:List Item} {ws:List Bytes}
end
end
section
def fT:List (Bytes×Int×Bytes):=[([120,108,105,110,107,58,97,99,116,117,97,116,101],4,[97,99,116,117,97,116,101]),([120,108,105,110,107,58,97,114,99,114,111,108,101],4,[97,114,99,114,111,108,101]),([120,108,105,110,107,58,104,114,101,102],4,[104,114,101,102]),([120,108,105,110,107,58,114,111,108,101],4,[114,111,108,101]),([120,108,105,110,107,58,115,104,111,119],4,[115,104,111,119]),([120,108,105,110,107,58,116,105,116,108,101],4,[116,105,116,108,101]),([120,108,105,110,107,58,116,121,112,101],4,[116,121,112,101]),([120,109,108,58,108,97,110,103],5,[108,97,110,103]),([120,109,108,58,115,112,97,99,101],5,[115,112,97,99,101]),([120,109,108,110,115],6,[120,109,108,110,115]),([120,109,108,110,115,58,120,108,105,110,107],6,[120,108,105,110,107])]
def fEntry (x:Bytes×Int×Bytes):AVal×AVal:=(.str x.1,.agg [.int .i64 x.2.1,.str x.2.2,.str []])
def ft (n:Nat):List (AVal×AVal):=(fT.take n).map fEntry
def foreignOf (n:Bytes):Option (Int×Bytes):=(fT.find? λx=>decide (n=x.1)).map (·.2)
abbrev dUrl:Bytes:=[100,101,102,105,110,105,116,105,111,110,117,114,108]
abbrev dURL:Bytes:=[100,101,102,105,110,105,116,105,111,110,85,82,76]
def adjName (sp:Int) (n:Bytes):Bytes:=if sp=2 then adjustedIn n rSvgAttrs else if sp=3∧n=dUrl then dURL else n
def adjAttr (sp:Int) (a:Attr):Attr:=
 if sp=2∨sp=3 then match foreignOf (adjName sp a.name) with
  |some (s,m)=>⟨s,m,a.value⟩
  |none=>⟨0,adjName sp a.name,a.value⟩
 else⟨0,a.name,a.value⟩
theorem Attr.len_row {a:Attr}:a.row.length=3:=rfl
section
variable {v:AVal} {l:List Attr} {h:AHeap}
end
end
section
structure FCor where
 node:Int
 name:Bytes
 attrs:List Attr
deriving DecidableEq
structure Fmt where
 c:FCor
 v:AVal
 ok:IsAttrs c.attrs v
def Fmt.row (e:Fmt):List AVal:=[.int .i64 e.c.node,.str e.c.name,e.v]
section
variable {e:Fmt} {d:AVal}
theorem Fmt.g0:e.row.getD 0 d= .int .i64 e.c.node:=rfl
theorem Fmt.g1:e.row.getD 1 d= .str e.c.name:=rfl
theorem Fmt.g2:e.row.getD 2 d=e.v:=rfl
end
theorem Attr.g0 {a:Attr} {d:AVal}:a.row.getD 0 d= .int .i64 a.space:=rfl
theorem Attr.g1 {a:Attr} {d:AVal}:a.row.getD 1 d= .str a.name:=rfl
theorem Attr.g2 {a:Attr} {d:AVal}:a.row.getD 2 d= .str a.value:=rfl
section
variable {h:AHeap} {v:AVal} {l:List Fmt} {id:Nat}
end
section
variable {h:AHeap} {v:AVal} {l:List Attr}
end
end
section
mutual
theorem AVal.beq_self:∀a:AVal,AVal.beq a a=true
 | .bool a=>by simp[AVal.beq]
 | .int k a=>by simp[AVal.beq]
 | .str a=>by simp[AVal.beq]
 | .ptr a=>by simp[AVal.beq]
 | .rptr a=>by simp[AVal.beq,AVal.beqL_self a]
 | .sl n a=>by simp[AVal.beq,AVal.beqLL_self a]
 | .nosl _=>by simp[AVal.beq]
 | .slnil=>by simp[AVal.beq]
 | .msl a c d e=>by simp[AVal.beq]
 | .map a=>by simp[AVal.beq]
 | .func f a c=>by simp[AVal.beq,AVal.beqL_self a,AVal.beqL_self c]
 | .nilFunc=>by simp[AVal.beq]
 | .iface t a=>by simp[AVal.beq,AVal.beq_self a]
 | .nilIface=>by simp[AVal.beq]
 | .agg a=>by simp[AVal.beq,AVal.beqL_self a]
 | .tuple a=>by simp[AVal.beq,AVal.beqL_self a]
theorem AVal.beqL_self:∀a:List AVal,AVal.beqL a a=true
 |[]=>by simp[AVal.beqL]
 |a::x=>by simp[AVal.beqL,AVal.beq_self a,AVal.beqL_self x]
theorem AVal.beqLL_self:∀a:List (List AVal),AVal.beqLL a a=true
 |[]=>by simp[AVal.beqLL]
 |a::x=>by simp[AVal.beqLL,AVal.beqL_self a,AVal.beqLL_self x]
end
section
variable {h:AHeap} {v:AVal} {l:List Fmt} {id:Nat}
def clampPos (i:Int) (n:Nat):Nat:=min (max i 0).toNat n
end
end
section
section
variable {e:FCor} {l:List Fmt} {n s:Nat}
end
section
variable {h:AHeap} {v:AVal} {l:List Fmt} {id:Nat}
end
end
section
section
variable {h:AHeap} {v:AVal} {l:List Fmt} {id:Nat}
end
end
end Go.Am
end
section
namespace Go.Am
set_option maxRecDepth 100000
structure ANode where
 kind:Int:=0
 par:Int:=0
 kids:List Int:=[]
 doc:Int:=0
 space:Int:=0
 name:Bytes:=[]
 attrs:List Attr:=[]
 data:Bytes:=[]
 pub:Bytes:=[]
 sys:Bytes:=[]
 quirks:Bool:=false
 cont:Int:=0
 host:Int:=0
deriving DecidableEq
structure Ar where
 n:List ANode
 i:List Int
abbrev wTemplate:Bytes:=[116,101,109,112,108,97,116,101]
def isT (x:ANode):Prop:=x.kind=4∧x.space=1∧x.name=wTemplate
instance (x:ANode):Decidable (isT x):=by unfold isT;infer_instance
namespace Ar
def len (A:Ar):Int:=A.n.length
def has (A:Ar) (h:Int):Prop:=1≤h∧h≤A.n.length
instance (A:Ar) (h:Int):Decidable (A.has h):=by unfold has;infer_instance
def nd (A:Ar) (h:Int):ANode:=if A.has h then A.n.getD (h.toNat-1) {} else{}
def inr (A:Ar) (h:Int):Int:=if A.has h then A.i.getD (h.toNat-1) 0 else 0
def set (A:Ar) (h:Int) (x:ANode):Ar:={n:=if A.has h then A.n.set (h.toNat-1) x else A.n,i:=A.i}
def setI (A:Ar) (h:Int) (x:Int):Ar:={n:=A.n,i:=if A.has h then A.i.set (h.toNat-1) x else A.i}
def add (A:Ar) (x:ANode):Ar:={n:=A.n++[x],i:=A.i++[0]}
def up (A:Ar) (h:Int):Int:=if(A.nd h).par≠0 then(A.nd h).par else(A.nd h).host
end Ar
section
variable {A:Ar} {h k:Int} {x y:ANode}
theorem nd_no (hh:¬A.has h):A.nd h={}:=by unfold Ar.nd;rw[if_neg hh]
theorem nlen_set:(A.set h x).n.length=A.n.length:=by simp only[Ar.set];split<;>simp
theorem len_set:(A.set h x).len=A.len:=by unfold Ar.len;rw[nlen_set]
theorem has_set:(A.set h x).has k↔A.has k:=by unfold Ar.has;rw[nlen_set]
theorem nd_set:(A.set h x).nd k=if k=h∧A.has h then x else A.nd k:=by
 unfold Ar.nd;simp only[has_set];by_cases hk:A.has k
 ·rw[if_pos hk,if_pos hk];simp only[Ar.set];by_cases hh:A.has h
  ·rw[if_pos hh];have h1:=hh;have h2:=hk;unfold Ar.has at h1 h2
   grind
  ·grind
 ·grind
theorem inr_set:(A.set h x).inr k=A.inr k:=by unfold Ar.inr;simp only[has_set];rfl
theorem len_add:(A.add x).len=A.len+1:=by simp[Ar.len,Ar.add]
theorem has_add:(A.add x).has k↔A.has k∨k=A.len+1:=by simp[Ar.has,Ar.add,Ar.len];omega
theorem nd_add:(A.add x).nd k=if k=A.len+1 then x else A.nd k:=by
 unfold Ar.nd;simp only[has_add];by_cases e:k=A.len+1
 ·subst e;simp[Ar.add,Ar.len]
 ·by_cases hk:A.has k
  ·rw[if_pos (.inl hk),if_neg e,if_pos hk];unfold Ar.has at hk;simp only[Ar.add,List.getD_eq_getElem?_getD]
   grind
  ·grind
theorem inr_add (hl:A.i.length=A.n.length):(A.add x).inr k=A.inr k:=by
 unfold Ar.inr;simp only[has_add];by_cases e:k=A.len+1
 ·subst e;simp[Ar.add,Ar.len,←hl]
 ·by_cases hk:A.has k
  ·rw[if_pos (.inl hk),if_pos hk];simp only[Ar.add,List.getD_eq_getElem?_getD]
   grind
  ·grind
theorem len_setI:(A.setI h k).len=A.len:=rfl
theorem has_setI {m:Int}:(A.setI h m).has k↔A.has k:=Iff.rfl
theorem nd_setI {m:Int}:(A.setI h m).nd k=A.nd k:=by rfl
theorem inr_setI {m:Int} (hl:A.i.length=A.n.length):(A.setI h m).inr k=if k=h∧A.has h then m else A.inr k:=by
 unfold Ar.inr;simp only[has_setI];by_cases hk:A.has k
 ·rw[if_pos hk,if_pos hk];simp only[Ar.setI];by_cases hh:A.has h
  ·rw[if_pos hh];have h1:=hh;have h2:=hk;unfold Ar.has at h1 h2
   grind
  ·grind
 ·grind
end
def keyOf (a:Attr):Int×Bytes:=(a.space,a.name)
def onceF (out:List Attr):List Attr→List Attr
 |[]=>out
 |x::l=>if out.any (λy=>decide (keyOf x=keyOf y)) then onceF out l else onceF (out++[x]) l
def once (l:List Attr):List Attr:=onceF [] l
theorem onceF_keys:∀{l out:List Attr},(out.map keyOf).Nodup→((onceF out l).map keyOf).Nodup
 |[],_,h=>h
 |x::l,out,h=>by
  rw[onceF];split
  ·exact onceF_keys h
  ·rename_i hn;refine onceF_keys ?_
   grind
theorem onceF_of:∀{l out:List Attr},((out++l).map keyOf).Nodup→onceF out l=out++l
 |[],out,_=>by simp[onceF]
 |x::l,out,h=>by
  rw[onceF,if_neg,onceF_of (by simpa using h)]
  ·simp
  ·grind
theorem once_keys (l:List Attr):((once l).map keyOf).Nodup:=onceF_keys (by simp)
theorem once_of {l:List Attr} (h:(l.map keyOf).Nodup):once l=l:=by have:=onceF_of (out:=[]) (l:=l) (by simpa using h);simpa[once] using this
theorem once_once (l:List Attr):once (once l)=once l:=once_of (once_keys l)
theorem onceF_mem:∀{l out:List Attr} {a:Attr},a∈onceF out l→a∈out∨a∈l
 |[],_,_,h=> .inl h
 |x::l,out,a,h=>by
  rw[onceF] at h;split at h
  ·rcases onceF_mem h with h|h
   ·exact .inl h
   ·grind
  ·rcases onceF_mem h with h|h
   ·grind
   ·grind
theorem once_mem {l:List Attr} {a:Attr} (h:a∈once l):a∈l:=by simpa using onceF_mem h
theorem onceF_le:∀{l out:List Attr},(onceF out l).length≤out.length+l.length
 |[],out=>by simp[onceF]
 |x::l,out=>by
  rw[onceF];split
  ·have:=onceF_le (l:=l) (out:=out);simp;omega
  ·have:=onceF_le (l:=l) (out:=out++[x]);simp at this⊢;omega
theorem once_le {l:List Attr}:(once l).length≤l.length:=by have:=onceF_le (l:=l) (out:=[]);simpa[once] using this
structure NOk (x:ANode):Prop where
 k:1≤x.kind∧x.kind≤6
 kids:x.kids≠[]→x.kind=1∨x.kind=2∨x.kind=4
 elem:x.kind≠4→x.space=0∧x.attrs=[]
 nm:x.kind≠4→x.kind≠3→x.name=[]
 dt:x.kind≠3→x.pub=[]∧x.sys=[]
 data:x.kind≠5→x.kind≠6→x.data=[]
 quirks:x.kind≠1→x.quirks=false
 sp:0≤x.space∧x.space≤7
 asp:∀a∈x.attrs,0≤a.space∧a.space≤7
 once:once x.attrs=x.attrs
 contT:x.cont≠0→isT x
 hostF:x.host≠0→x.kind=2
 root:x.par≠0→x.kind≠1∧x.kind≠2
 nod:x.kids.Nodup
structure ArOk (A:Ar) (e:Int):Prop where
 il:A.i.length=A.n.length
 nok:∀h,A.has h→NOk (A.nd h)
 doc:∀h,A.has h→A.has (A.nd h).doc∧(A.nd (A.nd h).doc).kind=1
 docD:∀h,A.has h→(A.nd h).kind=1→(A.nd h).doc=h
 par:∀h,A.has h→(A.nd h).par≠0→A.has (A.nd h).par∧h∈(A.nd (A.nd h).par).kids
 kid:∀h,A.has h→∀k∈(A.nd h).kids,A.has k∧(A.nd k).par=h
 tpl:∀h,A.has h→h≠e→isT (A.nd h)→(A.nd h).cont≠0
 cont:∀h,A.has h→(A.nd h).cont≠0→A.has (A.nd h).cont∧(A.nd (A.nd h).cont).kind=2∧(A.nd (A.nd h).cont).host=h
 host:∀h,A.has h→(A.nd h).host≠0→A.has (A.nd h).host∧(A.nd (A.nd h).host).cont=h
 ine:∀h,A.has h→A.inr h≠0→A.has (A.inr h)∧(A.nd (A.inr h)).kind=1
 rank:∃r:Int→Nat,∀h,A.has h→A.up h≠0→r (A.up h)<r h
section
variable {A:Ar} {e h k:Int} {x y:ANode}
theorem no_new:¬A.has (A.len+1):=by unfold Ar.has Ar.len;omega
theorem up_of_no (hh:¬A.has h):A.up h=0:=by unfold Ar.up;rw[nd_no hh];simp
theorem up_has (ok:ArOk A e) (hh:A.has h) (hu:A.up h≠0):A.has (A.up h):=by
 unfold Ar.up at hu⊢;split
 ·rename_i h1;exact(ok.par h hh h1).1
 ·rename_i h1;rw[if_neg h1] at hu;exact(ok.host h hh hu).1
theorem ok_add (ok:ArOk A e) (hx:NOk x) (hd:(x.kind=1∧x.doc=A.len+1)∨(x.kind≠1∧A.has x.doc∧(A.nd x.doc).kind=1)) (hp:x.par=0) (hk:x.kids=[]) (hc:x.cont=0) (hh:x.host=0) (hT:isT x→e=A.len+1):ArOk (A.add x) e:=by
 have no:=no_new (A:=A);obtain⟨r,hr⟩:=ok.rank;have ne:∀{k},A.has k→k≠A.len+1:=λhk e=>no (e▸hk);refine⟨by simp[Ar.add,ok.il],?_,?_,?_,?_,?_,?_,?_,?_,?_,r,?_⟩<;>intro m hm<;>rw[has_add] at hm<;>(try rw[inr_add ok.il])<;>simp only[Ar.up,nd_add,has_add]<;>rcases hm with hm|rfl
 all_goals first|(rw[if_neg (ne hm)])|(rw[if_pos rfl])|skip
 ·exact ok.nok m hm
 ·exact hx
 ·have:=ok.doc m hm;rw[if_neg (ne this.1)];exact⟨.inl this.1,this.2⟩
 ·grind
 ·exact ok.docD m hm
 ·omega
 ·intro h1;have:=ok.par m hm h1;rw[if_neg (ne this.1)];exact⟨.inl this.1,this.2⟩
 ·intro h1;exact absurd hp h1
 ·intro q hq;have:=ok.kid m hm q hq;rw[if_neg (ne this.1)];exact⟨.inl this.1,this.2⟩
 ·intro q hq;rw[hk] at hq;cases hq
 ·exact ok.tpl m hm
 ·intro h1 h2;exact absurd (hT h2).symm h1
 ·intro h1;have:=ok.cont m hm h1;rw[if_neg (ne this.1)];exact⟨.inl this.1,this.2⟩
 ·intro h1;exact absurd hc h1
 ·intro h1;have:=ok.host m hm h1;rw[if_neg (ne this.1)];exact⟨.inl this.1,this.2⟩
 ·intro h1;exact absurd hh h1
 ·intro h1;have:=ok.ine m hm h1;rw[if_neg (ne this.1)];exact⟨.inl this.1,this.2⟩
 ·intro h1;exfalso;apply h1;unfold Ar.inr;rw[if_neg no]
 ·have:=hr m hm;unfold Ar.up at this;exact this
 ·rw[hp,hh];simp
inductive Reach (A:Ar) (t:Int):Int→Prop
 |refl:Reach A t t
 |step {h:Int}:A.up h≠0→Reach A t (A.up h)→Reach A t h
def insAt (l:List Int) (b n:Int):List Int:=if b=0 then l++[n] else l.takeWhile (λk=>decide (k≠b))++n::l.dropWhile (λk=>decide (k≠b))
def Ar.cut (A:Ar) (n:Int):Ar:=
 let q:=(A.nd n).par
 if q=0 then A else
  let A1:=A.set q {A.nd q with kids:=(A.nd q).kids.filter λk=>decide (k≠n)}
  A1.set n {A1.nd n with par:=0}
def Ar.ins (A:Ar) (p n b:Int):Ar:=
 let A1:=A.set p {A.nd p with kids:=insAt (A.nd p).kids b n}
 A1.set n {A1.nd n with par:=p}
def isPar (k:Int):Prop:=k=1∨k=2∨k=4
instance (k:Int):Decidable (isPar k):=by unfold isPar;infer_instance
structure Fits (A:Ar) (p n b:Int):Prop where
 hp:A.has p
 hn:A.has n
 hb:b≠0→A.has b∧b≠n∧(A.nd b).par=p
 kp:isPar (A.nd p).kind
 kn:(A.nd n).kind≠1∧(A.nd n).kind≠2
 re:¬Reach A n p
open Classical in
noncomputable def Ar.tput (A:Ar) (p n b:Int):Ar:=if Fits A p n b then(A.cut n).ins p n b else A
theorem mem_insAt {l:List Int} {b n k:Int}:k∈insAt l b n↔k=n∨k∈l:=by
 unfold insAt;split
 ·simp;exact Or.comm
 ·have e:=List.takeWhile_append_dropWhile (p:=λk=>decide (k≠b)) (l:=l)
  grind
theorem nodup_insAt {l:List Int} {b n:Int} (h:l.Nodup) (hn:n∉l):(insAt l b n).Nodup:=by
 unfold insAt;split
 ·grind
 ·have e:=List.takeWhile_append_dropWhile (p:=λk=>decide (k≠b)) (l:=l)
  grind
theorem nlen_cut:(A.cut h).n.length=A.n.length:=by unfold Ar.cut;simp only;split<;>simp[nlen_set]
theorem has_cut:(A.cut h).has k↔A.has k:=by unfold Ar.has;rw[nlen_cut]
theorem nlen_ins {p n b:Int}:(A.ins p n b).n.length=A.n.length:=by unfold Ar.ins;simp[nlen_set]
theorem has_ins {p n b:Int}:(A.ins p n b).has k↔A.has k:=by unfold Ar.has;rw[nlen_ins]
theorem inr_cut:(A.cut h).inr k=A.inr k:=by unfold Ar.cut;simp only;split<;>simp[inr_set]
theorem inr_ins {p n b:Int}:(A.ins p n b).inr k=A.inr k:=by unfold Ar.ins;simp[inr_set]
theorem up_ne (ok:ArOk A e) (hh:A.has h) (hu:A.up h≠0):A.up h≠h:=by
 obtain⟨r,hr⟩:=ok.rank
 grind
theorem par_ne (ok:ArOk A e) (hh:A.has h) (hu:(A.nd h).par≠0):(A.nd h).par≠h:=by
 have:A.up h=(A.nd h).par:=by unfold Ar.up;rw[if_pos hu]
 have h2:=up_ne ok hh (by rw[this];exact hu);omega
theorem nd_cut (ok:ArOk A e) (hh:A.has h):(A.cut h).nd k=if k=h then{A.nd h with par:=0} else if(A.nd h).par≠0∧k=(A.nd h).par then{A.nd k with kids:=(A.nd k).kids.filter λm=>decide (m≠h)} else A.nd k:=by
 unfold Ar.cut;simp only
 by_cases hp:(A.nd h).par=0
 ·rw[if_pos hp];by_cases e:k=h
  ·subst e;rw[if_pos rfl];have:A.nd k={A.nd k with par:=(A.nd k).par}:=rfl;rw[hp] at this;exact this
  ·grind
 ·have hn:=par_ne ok hh hp;have hq:=(ok.par h hh hp).1;rw[if_neg hp];simp only[nd_set,has_set,hh,hq,and_true]
  grind
theorem nok_kids {x:ANode} (hx:NOk x) {l:List Int} (h1:l.Nodup) (h2:l≠[]→isPar x.kind):NOk {x with kids:=l}:=
 {k:=hx.k,kids:=h2,elem:=hx.elem,nm:=hx.nm,dt:=hx.dt,data:=hx.data,quirks:=hx.quirks,sp:=hx.sp,asp:=hx.asp,once:=hx.once,contT:=hx.contT,hostF:=hx.hostF,root:=hx.root,nod:=h1}
theorem nok_par {x:ANode} (hx:NOk x) {p:Int} (h2:p≠0→x.kind≠1∧x.kind≠2):NOk {x with par:=p}:=
 {k:=hx.k,kids:=hx.kids,elem:=hx.elem,nm:=hx.nm,dt:=hx.dt,data:=hx.data,quirks:=hx.quirks,sp:=hx.sp,asp:=hx.asp,once:=hx.once,contT:=hx.contT,hostF:=hx.hostF,root:=h2,nod:=hx.nod}
theorem il_cut (ok:A.i.length=A.n.length):(A.cut h).i.length=(A.cut h).n.length:=by rw[nlen_cut];unfold Ar.cut;simp only;split<;>exact ok
theorem il_ins {p n b:Int} (ok:A.i.length=A.n.length):(A.ins p n b).i.length=(A.ins p n b).n.length:=by rw[nlen_ins];exact ok
theorem kids_ne (ok:ArOk A e) (hh:A.has h) (hk:k∈(A.nd h).kids):k≠h∧(A.nd k).par=h∧A.has k:=by have:=ok.kid h hh k hk;refine⟨?_,this.2,this.1⟩;rintro rfl;have h0:=this.1.1;exact par_ne ok hh (by rw[this.2];omega) this.2
theorem up_cut (ok:ArOk A e) (hh:A.has h):(A.cut h).up k=if k=h then(A.nd h).host else A.up k:=by
 unfold Ar.up;rw[nd_cut ok hh]
 grind
theorem ok_cut (ok:ArOk A e) (hh:A.has h) (hk2:(A.nd h).kind≠2):ArOk (A.cut h) e:=by
 obtain⟨r,hr⟩:=ok.rank;have hN:=λm=>nd_cut (k:=m) ok hh;have kd:∀m,((A.cut h).nd m).kind=(A.nd m).kind:=λm=>by rw[hN];grind
 have dc:∀m,((A.cut h).nd m).doc=(A.nd m).doc:=λm=>by rw[hN];grind
 have cn:∀m,((A.cut h).nd m).cont=(A.nd m).cont:=λm=>by rw[hN];grind
 have ho:∀m,((A.cut h).nd m).host=(A.nd m).host:=λm=>by rw[hN];grind
 have hh0:(A.nd h).host=0:=by
  by_cases h0:(A.nd h).host=0
  ·exact h0
  ·exact absurd ((ok.nok h hh).hostF h0) hk2
 refine⟨il_cut ok.il,?_,?_,?_,?_,?_,?_,?_,?_,?_,r,?_⟩<;>intro m hm<;>rw[has_cut] at hm<;>(try simp only[kd,dc,cn,ho,has_cut,inr_cut])
 ·rw[hN];split
  ·exact nok_par (ok.nok h hh) (by simp)
  ·split
   ·exact nok_kids (ok.nok m hm) ((ok.nok m hm).nod.filter _) λh1=>(ok.nok m hm).kids (by intro h2;rw[h2] at h1;simp at h1)
   ·exact ok.nok m hm
 ·exact ok.doc m hm
 ·exact ok.docD m hm
 ·intro h1;have e1:m≠h:=by rintro rfl;rw[hN] at h1;simp at h1
  have e2:((A.cut h).nd m).par=(A.nd m).par:=by rw[hN,if_neg e1];split<;>rfl
  rw[e2] at h1⊢;have h2:=ok.par m hm h1;refine⟨h2.1,?_⟩;rw[hN];split
  ·rename_i e3;rw[←e3];exact h2.2
  ·split
   ·simp only[List.mem_filter,decide_eq_true_eq];exact⟨h2.2,e1⟩
   ·exact h2.2
 ·intro q hq;have h1:q∈(A.nd m).kids∧(m=(A.nd h).par→q≠h):=by
   rw[hN] at hq;split at hq
   ·rename_i e1;subst e1;have:=kids_ne ok hm hq;exact⟨hq,λ_=>this.1⟩
   ·split at hq
    ·simp only[List.mem_filter,decide_eq_true_eq] at hq;exact⟨hq.1,λ_=>hq.2⟩
    ·rename_i h3;refine⟨hq,λh4 h5=>h3 ⟨?_,h4⟩⟩;rw[←h4];have:=hm.1;omega
  have h2:=ok.kid m hm q h1.1;refine⟨h2.1,?_⟩;have e1:q≠h:=by rintro rfl;exact h1.2 h2.2.symm rfl
  rw[hN,if_neg e1,←h2.2];split<;>rfl
 ·intro h1 h2;refine ok.tpl m hm h1 ?_;rw[hN] at h2;unfold isT at h2⊢;grind
 ·exact ok.cont m hm
 ·exact ok.host m hm
 ·exact ok.ine m hm
 ·rw[up_cut ok hh];split
  ·rw[hh0];simp
  ·exact hr m hm
theorem nd_ins {p n b:Int} (hp:A.has p) (hn:A.has n) (hne:n≠p):(A.ins p n b).nd k=if k=n then{A.nd n with par:=p} else if k=p then{A.nd p with kids:=insAt (A.nd p).kids b n} else A.nd k:=by
 unfold Ar.ins;simp only[nd_set,has_set,hp,hn,and_true]
 grind
theorem reach_ins {p n b:Int} (hp:A.has p) (hn:A.has n) (hne:n≠p) (h0:(A.nd n).par=0) (hh0:(A.nd n).host=0) (hr:¬Reach A n p):∀{m},¬Reach A n m→(A.ins p n b).up m=A.up m:=by
 intro m hm;have e:m≠n:=by rintro rfl;exact hm .refl
 unfold Ar.up;rw[nd_ins hp hn hne,if_neg e]
 grind
open Classical in
theorem ok_ins (ok:ArOk A e) {p n b:Int} (hp:A.has p) (hn:A.has n) (kp:isPar (A.nd p).kind) (kn:(A.nd n).kind≠1∧(A.nd n).kind≠2) (re:¬Reach A n p) (h0:(A.nd n).par=0):ArOk (A.ins p n b) e:=by
 obtain⟨r,hr⟩:=ok.rank;have hne:n≠p:=by rintro rfl;exact re .refl
 have hN:=λm=>nd_ins (k:=m) (b:=b) hp hn hne;have kd:∀m,((A.ins p n b).nd m).kind=(A.nd m).kind:=λm=>by rw[hN];grind
 have dc:∀m,((A.ins p n b).nd m).doc=(A.nd m).doc:=λm=>by rw[hN];grind
 have cn:∀m,((A.ins p n b).nd m).cont=(A.nd m).cont:=λm=>by rw[hN];grind
 have ho:∀m,((A.ins p n b).nd m).host=(A.nd m).host:=λm=>by rw[hN];grind
 have hh0:(A.nd n).host=0:=by
  by_cases h0:(A.nd n).host=0
  ·exact h0
  ·exact absurd ((ok.nok n hn).hostF h0) kn.2
 have nk:∀m,A.has m→n∉(A.nd m).kids:=by intro m hm h1;have:=ok.kid m hm n h1;rw[h0] at this;have:=hm.1;omega
 refine⟨il_ins ok.il,?_,?_,?_,?_,?_,?_,?_,?_,?_,λm=>if Reach A n m then r m+r p+1 else r m,?_⟩<;>intro m hm<;>rw[has_ins] at hm<;>(try simp only[kd,dc,cn,ho,has_ins,inr_ins])
 ·rw[hN];split
  ·exact nok_par (ok.nok n hn) λ_=>kn
  ·split
   ·exact nok_kids (ok.nok p hp) (nodup_insAt (ok.nok p hp).nod (nk p hp)) λ_=>kp
   ·exact ok.nok m hm
 ·exact ok.doc m hm
 ·exact ok.docD m hm
 ·intro h1;by_cases e1:m=n
  ·subst e1;rw[hN,if_pos rfl];refine⟨hp,?_⟩;simp only
   rw[hN,if_neg (Ne.symm hne),if_pos rfl];exact mem_insAt.2 (.inl rfl)
  ·have e2:((A.ins p n b).nd m).par=(A.nd m).par:=by rw[hN,if_neg e1];split;rename_i e;rw[e];rfl
   rw[e2] at h1⊢;have h2:=ok.par m hm h1;refine⟨h2.1,?_⟩;rw[hN];split
   ·rename_i e3;rw[←e3];exact h2.2
   ·split
    ·rename_i e3;rw[←e3];exact mem_insAt.2 (.inr h2.2)
    ·exact h2.2
 ·intro q hq;by_cases e1:q=n
  ·subst e1;refine⟨hn,?_⟩;rw[hN,if_pos rfl];rw[hN] at hq;split at hq
   ·exact absurd hq (nk q hn)
   ·split at hq
    ·rename_i e;exact e.symm
    ·exact absurd hq (nk m hm)
  ·have h1:q∈(A.nd m).kids:=by
    rw[hN] at hq;split at hq
    ·rename_i e;rw[e];exact hq
    ·split at hq
     ·rename_i e;rw[e];exact(mem_insAt.1 hq).resolve_left e1
     ·exact hq
   have h2:=ok.kid m hm q h1;refine⟨h2.1,?_⟩;rw[hN,if_neg e1,←h2.2];split
   ·rename_i e;rw[e]
   ·rfl
 ·intro h1 h2;refine ok.tpl m hm h1 ?_;rw[hN] at h2;unfold isT at h2⊢;grind
 ·exact ok.cont m hm
 ·exact ok.host m hm
 ·exact ok.ine m hm
 ·intro hu;by_cases hR:Reach A n m
  ·by_cases e1:m=n
   ·subst e1;have e2:(A.ins p m b).up m=p:=by unfold Ar.up;rw[hN,if_pos rfl];simp only;rw[if_pos];have:=hp.1;omega
    rw[e2,if_neg re,if_pos hR];omega
   ·have e2:(A.ins p n b).up m=A.up m:=by
     unfold Ar.up;rw[hN,if_neg e1];split
     ·rename_i e;rw[e]
     ·rfl
    rw[e2] at hu⊢;have hR2:Reach A n (A.up m):=by
     cases hR with
     |refl=>exact absurd rfl e1
     |step _ hx=>exact hx
    rw[if_pos hR2,if_pos hR];have:=hr m hm hu;omega
  ·have e2:=reach_ins (b:=b) hp hn hne h0 hh0 re hR;rw[e2] at hu⊢;have hR2:¬Reach A n (A.up m):=λh=>hR (.step hu h);rw[if_neg hR2,if_neg hR];exact hr m hm hu
theorem reach_cut (ok:ArOk A e) (hh:A.has h) {m:Int} (hr:¬Reach A h m):¬Reach (A.cut h) h m:=by
 intro hr2;have key:∀m,Reach (A.cut h) h m→Reach A h m:=by
  intro m hm
  induction hm with
  |refl=>exact .refl
  |@step q h1 _ ih=>
   by_cases e1:q=h
   ·rw[e1];exact .refl
   ·rw[up_cut ok hh,if_neg e1] at h1 ih;exact .step h1 ih
 grind
theorem ok_tput (ok:ArOk A e) {p n b:Int}:ArOk (A.tput p n b) e:=by
 unfold Ar.tput;split
 ·rename_i f;have o2:=ok_cut ok f.hn f.kn.2;have kd:∀m,((A.cut n).nd m).kind=(A.nd m).kind:=λm=>by rw[nd_cut ok f.hn];grind
  refine ok_ins o2 (has_cut.2 f.hp) (has_cut.2 f.hn) ?_ ?_ (reach_cut ok f.hn f.re) ?_
  ·rw[kd];exact f.kp
  ·rw[kd];exact f.kn
  ·rw[nd_cut ok f.hn,if_pos rfl]
 ·exact ok
theorem ok_set (ok:ArOk A e) (hh:A.has h) (hx:NOk x) (h1:x.kind=(A.nd h).kind) (h2:x.par=(A.nd h).par) (h3:x.kids=(A.nd h).kids) (h4:A.has x.doc∧(A.nd x.doc).kind=1∧(x.kind=1→x.doc=h)) (h5:x.cont=(A.nd h).cont) (h6:x.host=(A.nd h).host) (h7:isT x→isT (A.nd h)):ArOk (A.set h x) e:=by
 obtain⟨r,hr⟩:=ok.rank;have hN:∀m,(A.set h x).nd m=if m=h then x else A.nd m:=λm=>by rw[nd_set];simp[hh]
 have kd:∀m,((A.set h x).nd m).kind=(A.nd m).kind:=λm=>by rw[hN];grind
 have pr:∀m,((A.set h x).nd m).par=(A.nd m).par:=λm=>by rw[hN];grind
 have ks:∀m,((A.set h x).nd m).kids=(A.nd m).kids:=λm=>by rw[hN];grind
 have cn:∀m,((A.set h x).nd m).cont=(A.nd m).cont:=λm=>by rw[hN];grind
 have ho:∀m,((A.set h x).nd m).host=(A.nd m).host:=λm=>by rw[hN];grind
 have u:∀m,(A.set h x).up m=A.up m:=λm=>by unfold Ar.up;rw[pr,ho]
 refine⟨by rw[nlen_set];exact ok.il,?_,?_,?_,?_,?_,?_,?_,?_,?_,r,?_⟩<;>intro m hm<;>rw[has_set] at hm<;>(try simp only[kd,pr,ks,cn,ho,u,has_set,inr_set])
 ·rw[hN];split
  ·exact hx
  ·exact ok.nok m hm
 ·rw[hN];split
  ·exact⟨h4.1,h4.2.1⟩
  ·exact ok.doc m hm
 ·rw[hN];split
  ·rename_i e;intro h8;rw[e,h4.2.2 (by rw[h1,←e];exact h8)]
  ·exact ok.docD m hm
 ·exact ok.par m hm
 ·exact ok.kid m hm
 ·intro h8 h9;refine ok.tpl m hm h8 ?_
  grind
 ·exact ok.cont m hm
 ·exact ok.host m hm
 ·exact ok.ine m hm
 ·exact hr m hm
def Ar.inertH (A:Ar) (d:Int):Int:=if A.inr d≠0 then A.inr d else A.len+1
def Ar.inertA (A:Ar) (d:Int):Ar:=if A.inr d≠0 then A else((A.add {kind:=1,doc:=A.len+1}).setI d (A.len+1)).setI (A.len+1) (A.len+1)
theorem nok_doc:NOk {kind:=1,doc:=k}:=by constructor<;>simp[once,onceF]
theorem ok_setI (ok:ArOk A e) (hk:A.has k∧(A.nd k).kind=1):ArOk (A.setI h k) e:=by
 refine⟨?_,ok.nok,ok.doc,ok.docD,ok.par,ok.kid,ok.tpl,ok.cont,ok.host,?_,ok.rank⟩
 ·simp only[Ar.setI];split<;>simp[ok.il]
 ·intro m hm h1;rw[inr_setI ok.il] at h1⊢;split at h1
  ·rename_i h2;rw[if_pos h2];exact hk
  ·rename_i h2;rw[if_neg h2];exact ok.ine m hm h1
theorem ok_inert (ok:ArOk A e) (hh:A.has h) (he:e≠A.len+1):ArOk (A.inertA h) e∧(A.inertA h).has (A.inertH h)∧((A.inertA h).nd (A.inertH h)).kind=1:=by
 unfold Ar.inertA Ar.inertH;split
 ·rename_i h1;exact⟨ok,ok.ine h hh h1⟩
 ·have o1:=ok_add ok nok_doc (.inl ⟨rfl,rfl⟩) rfl rfl rfl rfl (by simp[isT]);have h2:(A.add {kind:=1,doc:=A.len+1}).has (A.len+1)∧((A.add {kind:=1,doc:=A.len+1}).nd (A.len+1)).kind=1:=by rw[has_add,nd_add,if_pos rfl];exact⟨.inr rfl,rfl⟩
  exact⟨ok_setI (ok_setI o1 h2) h2,h2⟩
theorem nd_inert (hk:k≠A.len+1∨A.inr h≠0):(A.inertA h).nd k=A.nd k:=by
 unfold Ar.inertA;split
 ·rfl
 ·rename_i h1;rw[nd_setI,nd_setI,nd_add,if_neg (hk.resolve_right h1)]
theorem len_inert:(A.inertA h).len=if A.inr h≠0 then A.len else A.len+1:=by
 unfold Ar.inertA;split
 ·rfl
 ·rw[len_setI,len_setI,len_add]
theorem has_inert:A.has k→(A.inertA h).has k:=by
 unfold Ar.inertA;split
 ·exact id
 ·intro hk;rw[has_setI,has_setI,has_add];exact .inl hk
theorem ok_frag {d:Int} (ok:ArOk A e) (he:A.has e) (hT:isT (A.nd e)) (hc:(A.nd e).cont=0) (hd:A.has d∧(A.nd d).kind=1):ArOk ((A.add {kind:=2,host:=e,doc:=d}).set e {A.nd e with cont:=A.len+1}) 0:=by
 have no:=no_new (A:=A);obtain⟨r,hr⟩:=ok.rank;have ne:∀{k},A.has k→k≠A.len+1:=λhk e=>no (e▸hk);have l0:A.len+1≠0:=by have:=he.1;have:=he.2;unfold Ar.len;omega
 have hN:∀m,(((A.add {kind:=2,host:=e,doc:=d}).set e {A.nd e with cont:=A.len+1}).nd m)=if m=e then{A.nd e with cont:=A.len+1} else if m=A.len+1 then{kind:=2,host:=e,doc:=d} else A.nd m:=λm=>by rw[nd_set,nd_add];simp[he,has_add]
 have hk:(A.nd e).kind=4:=hT.1;have h0:(A.nd e).host=0:=by
  by_cases h0:(A.nd e).host=0
  ·exact h0
  ·have:=(ok.nok e he).hostF h0;omega
 have e0:e≠0:=by have:=he.1;omega
 have hnx:NOk {kind:=2,host:=e,doc:=d}:=by constructor<;>simp[once,onceF]
 have nok:=ok.nok;have o2:=nok e he;have hne:NOk {A.nd e with cont:=A.len+1}:={k:=o2.k,kids:=o2.kids,elem:=o2.elem,nm:=o2.nm,dt:=o2.dt,data:=o2.data,quirks:=o2.quirks,sp:=o2.sp,asp:=o2.asp,once:=o2.once,contT:=λ_=>hT,hostF:=o2.hostF,root:=o2.root,nod:=o2.nod};have hs:∀m,((A.add {kind:=2,host:=e,doc:=d}).set e {A.nd e with cont:=A.len+1}).has m↔A.has m∨m=A.len+1:=λm=>by rw[has_set,has_add]
 have hi:∀m,((A.add {kind:=2,host:=e,doc:=d}).set e {A.nd e with cont:=A.len+1}).inr m=A.inr m:=λm=>by rw[inr_set,inr_add ok.il]
 have nee:e≠A.len+1:=ne he;refine⟨by rw[nlen_set];simp[Ar.add,Ar.set,ok.il],?_,?_,?_,?_,?_,?_,?_,?_,?_,λm=>if m=A.len+1 then r e+1 else r m,?_⟩<;>intro m hm<;>rw[hs] at hm<;>(try simp only[hs,hi])
 ·rw[hN];split
  ·exact hne
  ·split
   ·exact hnx
   ·rename_i h1 h2;exact nok m (hm.resolve_right h2)
 ·have key:∀q,A.has q∧(A.nd q).kind=1→(A.has q∨q=A.len+1)∧(((A.add {kind:=2,host:=e,doc:=d}).set e {A.nd e with cont:=A.len+1}).nd q).kind=1:=by
   intro q hq;refine⟨.inl hq.1,?_⟩;rw[hN,if_neg (ne hq.1)];split
   ·rename_i e1;rw[e1] at hq;exact hq.2
   ·exact hq.2
  rw[hN m];split
  ·exact key _ (ok.doc e he)
  ·split
   ·exact key _ hd
   ·rename_i h1 h2;exact key _ (ok.doc m (hm.resolve_right h2))
 ·rw[hN m];split
  ·rename_i e1;intro h1;rw[e1];exact ok.docD e he h1
  ·split
   ·intro h1;simp at h1
   ·rename_i h1 h2;exact ok.docD m (hm.resolve_right h2)
 ·have key:∀q,A.has q→(A.nd q).par≠0→(A.has (A.nd q).par∨(A.nd q).par=A.len+1)∧q∈(((A.add {kind:=2,host:=e,doc:=d}).set e {A.nd e with cont:=A.len+1}).nd (A.nd q).par).kids:=by
   intro q hq hp;have h1:=ok.par q hq hp;refine⟨.inl h1.1,?_⟩;rw[hN,if_neg (ne h1.1)];split
   ·rename_i e1;rw[e1] at h1;exact h1.2
   ·exact h1.2
  rw[hN m];split
  ·rename_i e1;rw[e1];exact key e he
  ·split
   ·intro h1;simp at h1
   ·rename_i h1 h2;exact key m (hm.resolve_right h2)
 ·have key:∀q,A.has q→∀k∈(A.nd q).kids,(A.has k∨k=A.len+1)∧(((A.add {kind:=2,host:=e,doc:=d}).set e {A.nd e with cont:=A.len+1}).nd k).par=q:=by
   intro q hq k hk;have h1:=ok.kid q hq k hk;refine⟨.inl h1.1,?_⟩;rw[hN,if_neg (ne h1.1)];split
   ·rename_i e1;rw[e1] at h1;exact h1.2
   ·exact h1.2
  rw[hN m];split
  ·rename_i e1;rw[e1];exact key e he
  ·split
   ·intro k hk;simp at hk
   ·rename_i h1 h2;exact key m (hm.resolve_right h2)
 ·intro _;rw[hN m];split
  ·intro _;exact l0
  ·split
   ·intro h1;simp[isT] at h1
   ·rename_i h1 h2;exact ok.tpl m (hm.resolve_right h2) h1
 ·rw[hN m];split
  ·rename_i e1;intro _;simp only
   rw[hN,if_neg (Ne.symm nee),if_pos rfl,e1];exact⟨.inr trivial,rfl,rfl⟩
  ·split
   ·intro h1;simp at h1
   ·rename_i h1 h2;intro h3;have h4:=ok.cont m (hm.resolve_right h2) h3;refine⟨.inl h4.1,?_⟩;rw[hN,if_neg (ne h4.1)];split
    ·rename_i e1;rw[e1,hk] at h4;exact absurd h4.2.1 (by decide)
    ·exact h4.2
 ·rw[hN m];split
  ·intro h1;exact absurd h0 h1
  ·split
   ·rename_i e1;intro _;simp only;refine⟨.inl he,?_⟩;rw[hN,if_pos rfl,e1]
   ·rename_i h1 h2;intro h3;have h4:=ok.host m (hm.resolve_right h2) h3;refine⟨.inl h4.1,?_⟩;rw[hN,if_neg (ne h4.1)];split
    ·rename_i e1;rw[e1,hc] at h4;have:=(hm.resolve_right h2).1;omega
    ·exact h4.2
 ·intro h1;rcases hm with hm|rfl
  ·have h2:=ok.ine m hm h1;refine⟨.inl h2.1,?_⟩;rw[hN,if_neg (ne h2.1)];split
   ·rename_i e1;rw[e1] at h2;exact h2.2
   ·exact h2.2
  ·exfalso;apply h1;unfold Ar.inr;rw[if_neg no]
 ·by_cases e1:m=A.len+1
  ·have e2:((A.add {kind:=2,host:=e,doc:=d}).set e {A.nd e with cont:=A.len+1}).up m=e:=by
    have e3:m≠e:=by rw[e1];exact Ne.symm nee
    unfold Ar.up;rw[hN m];simp[e1,Ne.symm nee]
   rw[e2,if_neg nee,if_pos e1];intro _;omega
  ·have hm:=hm.resolve_right e1;have e2:((A.add {kind:=2,host:=e,doc:=d}).set e {A.nd e with cont:=A.len+1}).up m=A.up m:=by
    unfold Ar.up;rw[hN];split
    ·rename_i e3;rw[e3]
    ·rfl
   rw[e2,if_neg e1];intro h1;rw[if_neg (ne (up_has ok hm h1))];exact hr m hm h1
def Ar.elem (A:Ar) (d sp:Int) (nm:Bytes) (at_:List Attr):Ar:=
 let x:ANode:={kind:=4,doc:=d,space:=sp,name:=nm,attrs:=once at_}
 if isT x then
  let A1:=A.add x
  let A2:=A1.inertA d
  (A2.add {kind:=2,host:=A.len+1,doc:=A1.inertH d}).set (A.len+1) {x with cont:=A2.len+1}
 else A.add x
theorem ok_elem {d sp:Int} {nm:Bytes} {l:List Attr} (ok:ArOk A 0) (hd:A.has d∧(A.nd d).kind=1) (hs:0≤sp∧sp≤7) (hl:∀a∈l,0≤a.space∧a.space≤7):ArOk (A.elem d sp nm l) 0:=by
 have hx:NOk {kind:=4,doc:=d,space:=sp,name:=nm,attrs:=once l}:=by constructor<;>simp[once_once,hs];exact λa ha=>hl a (once_mem ha)
 unfold Ar.elem;simp only
 split
 ·rename_i hT;have okx:ArOk A (A.len+1):={ok with tpl:=λh hh _=>ok.tpl h hh (by have:=hh.1;omega)};have o1:=ok_add okx hx (.inr ⟨by simp,hd⟩) rfl rfl rfl rfl λ_=>rfl;have hd1:(A.add {kind:=4,doc:=d,space:=sp,name:=nm,attrs:=once l}).has d:=has_add.2 (.inl hd.1);obtain⟨o2,h2,h3⟩:=ok_inert o1 hd1 (by rw[len_add];omega);have hN:((A.add {kind:=4,doc:=d,space:=sp,name:=nm,attrs:=once l}).inertA d).nd (A.len+1)={kind:=4,doc:=d,space:=sp,name:=nm,attrs:=once l}:=by rw[nd_inert (.inl (by rw[len_add];omega)),nd_add,if_pos rfl]
  have:=ok_frag o2 (has_inert (has_add.2 (.inr rfl))) (by rw[hN];exact hT) (by rw[hN]) ⟨h2,h3⟩
  grind
 ·rename_i hT;exact ok_add ok hx (.inr ⟨by simp,hd⟩) rfl rfl rfl rfl λh=>absurd h hT
end
end Go.Am
end
section
namespace Go.Am
set_option maxRecDepth 100000
def nodeC (n:Int) (e:FCor):Bool:=decide (e.node=n)
def entC (n:Int) (l:List FCor):Int:=if n=0 then -1 else lastIdx (nodeC n) l
def findCR (name:Bytes):List FCor→Int
 |[]=> -1
 |x::t=>if x.node=0 then -1 else if x.name=name then(t.length:Int) else findCR name t
def findC (name:Bytes) (l:List FCor):Int:=findCR name l.reverse
structure BS where
 a:Ar
 doc:Int
 opn:List Item
 act:List FCor
 mode:Int
 orig:Int
 tm:List Int
 head:Int
 form:Int
 frag:Bool
 ctx:Item
 fs:Bool
 foster:Bool
 pend:Bytes
 skip:Bool
 sw:Int
 stop:Bool
def wds (s:List Bytes) (A:Ar) (h:Int):Prop:=(A.nd h).kind=4∧(A.nd h).space=1∧(A.nd h).name∈s
instance (s:List Bytes) (A:Ar) (h:Int):Decidable (wds s A h):=by unfold wds;infer_instance
abbrev wTable:Bytes:=[116,97,98,108,101]
abbrev wTbody:Bytes:=[116,98,111,100,121]
abbrev wTfoot:Bytes:=[116,102,111,111,116]
abbrev wThead:Bytes:=[116,104,101,97,100]
abbrev wTr:Bytes:=[116,114]
def fWords:List Bytes:=[wTable,wTbody,wTfoot,wThead,wTr]
namespace BS
def fost (b:BS):Int×Int:=
 let tp:=lastIdx (isOne [wTemplate]) b.opn
 let tb:=lastIdx (isOne [wTable]) b.opn
 if tb<tp then((itemAt b.opn tp).node,0) else if tb<0 then((itemAt b.opn 0).node,0) else
 let t:=(itemAt b.opn tb).node
 if(b.a.nd t).par≠0 then((b.a.nd t).par,t) else((itemAt b.opn (max (tb-1) 0)).node,0)
def place (b:BS) (t:Int):Int×Int:=
 if t=0∧b.opn=[] then(b.doc,0) else
 let t':=if t=0 then(topOf b.opn).node else t
 let pb:=if b.foster=true∧wds fWords b.a t' then b.fost else(t',0)
 if(b.a.nd pb.1).cont≠0 then((b.a.nd pb.1).cont,0) else pb
end BS
open Classical in
noncomputable def Ar.bput (A:Ar) (h p bf:Int):Ar:=if(A.nd p).kind=1∧(A.nd h).kind=4∧(∃k∈(A.nd p).kids,(A.nd k).kind=4) then A else A.tput p h bf
namespace BS
def docFor (b:BS) (p:Int):Int:=if(b.a.nd p).cont≠0 then(if(b.a.nd (b.a.nd p).cont).doc≠0 then(b.a.nd (b.a.nd p).cont).doc else b.doc) else if(b.a.nd p).doc≠0 then(b.a.nd p).doc else b.doc
def okSp (sp:Int):Prop:=0≤sp∧sp≤7
instance (sp:Int):Decidable (okSp sp):=by unfold okSp;infer_instance
def nmOf (sp:Int) (nm:Bytes):Bytes:=if sp=2 then adjustedIn nm rSvgNames else nm
def mkI (b:BS) (nm:Bytes) (at_:List Attr) (sp:Int):Item:=if okSp sp then⟨b.a.len+1,sp,nmOf sp nm,htmlPoint sp (nmOf sp nm) (at_.map (adjAttr sp))⟩ else Item.zero
def mkB (b:BS) (nm:Bytes) (at_:List Attr) (sp p:Int):BS:=if okSp sp then{b with a:=b.a.elem (b.docFor p) sp (nmOf sp nm) (at_.map (adjAttr sp))} else b
end BS
def Ar.setData (A:Ar) (h:Int) (s:Bytes):Ar:=A.set h {A.nd h with data:=s}
def Ar.setAttrs (A:Ar) (h:Int) (l:List Attr):Ar:=A.set h {A.nd h with attrs:=once l}
namespace BS
def anyEnd (b:BS) (nm:Bytes):BS:=match b.opn.reverse.find? λi=>isOne [nm] i||special i with
 |some i=>if isOne [nm] i then{b with opn:=popNode i.node (pops (unimplied nm) never b.opn)} else b
 |none=>b
end BS
namespace BS
def plain (l:List Attr):List Attr:=l.map λa=>⟨0,a.name,a.value⟩
end BS
def FCor.zero:FCor:=⟨0,[],[]⟩
namespace BS
noncomputable def betw1 (blk anc:Int) (far i:Nat) (b:BS) (l:Int) (m:Nat):BS×Int×Nat:=
 let x:=b.opn.getD i Item.zero
 let e:=entC x.node b.act
 if e<0 then({b with opn:=dropAt b.opn i},l,m)
 else if i+3<far then({b with act:=dropAt b.act e.toNat,opn:=dropAt b.opn i},l,if e.toNat<m then m-1 else m)
 else
  let en:=b.act.getD e.toNat FCor.zero
  let n:=b.mkI en.name en.attrs 1
  let b1:=b.mkB en.name en.attrs 1 anc
  ({b1 with a:=b1.a.tput n.node l 0,opn:=b1.opn.set i n,act:=b1.act.set e.toNat {en with node:=n.node}},n.node,if l=blk then e.toNat+1 else m)
noncomputable def betw (blk anc:Int) (far k:Nat):Nat→BS×Int×Nat→BS×Int×Nat
 |0,s=>s
 |c+1,s=>betw blk anc far k c (betw1 blk anc far (k+(c+1)) s.1 s.2.1 s.2.2)
noncomputable def moveKids (A:Ar) (n:Int) (l:List Int):Ar:=l.foldl (λA x=>A.tput n x 0) A
noncomputable def roundE (fe:FCor) (blk anc:Int) (s:BS×Int×Nat):BS:=
 let b1:=s.1
 let pb:=b1.place anc
 let b2:={b1 with a:=b1.a.bput s.2.1 pb.1 pb.2}
 let n:=b2.mkI fe.name fe.attrs 1
 let b3:=b2.mkB fe.name fe.attrs 1 blk
 let ef:=entC fe.node b3.act
 let mk:=if ef.toNat<s.2.2 then s.2.2 -1 else s.2.2
 let ac:=dropAt b3.act ef.toNat
 let op:=removed fe.node b3.opn
 let ip:=insertPos (lastIdx (isNode blk) op+1) op.length
 {b3 with a:=(moveKids b3.a n.node (b3.a.nd blk).kids).tput blk n.node 0,act:=ac.take (clampPos mk ac.length)++{fe with node:=n.node}::ac.drop (clampPos mk ac.length),opn:=op.take ip++n::op.drop ip}
noncomputable def round (b:BS) (nm:Bytes):Bool×BS:=
 let f:=findC nm b.act
 if f<0 then(false,b.anyEnd nm) else
 let fe:=b.act.getD f.toNat FCor.zero
 let k:=lastIdx (isNode fe.node) b.opn
 if k<0 then(false,{b with act:=dropAt b.act f.toNat}) else
 if k=0∨inSc (isNode fe.node) (ends 1) b.opn.reverse=false then(false,b) else
 let far:=furthest fe.node b.opn
 if far<0 then(false,{b with opn:=popNode fe.node b.opn,act:=dropAt b.act f.toNat}) else
 let blk:=(b.opn.getD far.toNat Item.zero).node
 let anc:=(b.opn.getD (k.toNat-1) Item.zero).node
 (true,roundE fe blk anc (betw blk anc far.toNat k.toNat (far.toNat-1 -k.toNat) (b,blk,f.toNat)))
end BS
end Go.Am
end
section
namespace Go.Am
set_option maxRecDepth 100000
structure Le (A A':Ar):Prop where
 has:∀h,A.has h→A'.has h
 kind:∀h,A.has h→(A'.nd h).kind=(A.nd h).kind
 space:∀h,A.has h→(A'.nd h).space=(A.nd h).space
 name:∀h,A.has h→(A'.nd h).name=(A.nd h).name
section
variable {A A' A'':Ar} {h k e p n b:Int} {x:ANode}
theorem Le.refl:Le A A:=⟨λ_ h=>h,λ_ _=>rfl,λ_ _=>rfl,λ_ _=>rfl⟩
theorem has_ne (hh:A.has h):h≠A.len+1:=λe=>no_new (A:=A) (e▸hh)
theorem nd_add_old (hh:A.has h):(A.add x).nd h=A.nd h:=by rw[nd_add,if_neg (has_ne hh)]
theorem len_elem {d sp:Int} {nm:Bytes} {l:List Attr}:A.len+1≤(A.elem d sp nm l).len∧(A.elem d sp nm l).len≤A.len+3:=by
 unfold Ar.elem;simp only
 split
 ·rw[len_set,len_add,len_inert,len_add];split<;>omega
 ·rw[len_add];omega
theorem ok_setAttrs {l:List Attr} (ok:ArOk A e) (hh:A.has h) (hk:(A.nd h).kind=4) (hl:∀a∈l,0≤a.space∧a.space≤7):ArOk (A.setAttrs h l) e:=by have hx:=ok.nok h hh;refine ok_set ok hh ⟨hx.k,hx.kids,λh=>absurd hk h,hx.nm,hx.dt,hx.data,hx.quirks,hx.sp,λa ha=>hl a (once_mem ha),once_once l,hx.contT,hx.hostF,hx.root,hx.nod⟩ rfl rfl rfl ⟨(ok.doc h hh).1,(ok.doc h hh).2,ok.docD h hh⟩ rfl rfl λhT=>hT
theorem ok_setData {s:Bytes} (ok:ArOk A e) (hh:A.has h) (hk:(A.nd h).kind=5∨(A.nd h).kind=6):ArOk (A.setData h s) e:=by have hx:=ok.nok h hh;refine ok_set ok hh ⟨hx.k,hx.kids,hx.elem,hx.nm,hx.dt,λh5 h6=>by have:(A.nd h).kind≠5:=h5;have:(A.nd h).kind≠6:=h6;omega,hx.quirks,hx.sp,hx.asp,hx.once,hx.contT,hx.hostF,hx.root,hx.nod⟩ rfl rfl rfl ⟨(ok.doc h hh).1,(ok.doc h hh).2,ok.docD h hh⟩ rfl rfl λhT=>hT
end
structure BOk (b:BS):Prop where
 ok:ArOk b.a 0
 doc:b.a.has b.doc∧(b.a.nd b.doc).kind=1
 op:∀i∈b.opn,b.a.has i.node∧(b.a.nd i.node).kind=4∧(b.a.nd i.node).space=i.space∧(b.a.nd i.node).name=i.name
 opN:(b.opn.map Item.node).Nodup
 ac:∀e∈b.act,e.node=0∨(b.a.has e.node∧(b.a.nd e.node).kind=4)
 acN:((b.act.map FCor.node).filter λn=>decide (n≠0)).Nodup
structure BA (b:BS):Prop where
 ok:ArOk b.a 0
 doc:b.a.has b.doc∧(b.a.nd b.doc).kind=1
theorem BOk.ba {b:BS} (o:BOk b):BA b:=⟨o.ok,o.doc⟩
instance {b:BS}:Coe (BOk b) (BA b):=⟨BOk.ba⟩
section
variable {b:BS} {t:Int}
variable {nm:Bytes} {at_:List Attr} {sp p:Int}
theorem hs1:BS.okSp 1:=⟨by decide,by decide⟩
end
end Go.Am
end
section
namespace Go.Am
set_option maxRecDepth 100000
structure Lim (A:Ar):Prop where
 n:A.n.length≤1000000000
 at_:∀x,(A.nd x).attrs.length≤1000000000
 data:∀x,(A.nd x).data.length≤20000000000000
end Go.Am
end
