/- Lemmas -/
import Derived.Test.YtjboelmdplaenaaGreatDoorQ1
import Derived.IntWalk
set_option linter.unusedVariables false
set_option linter.unusedSimpArgs false
section
namespace Go.Am
open Go
section
variable {C:Ctx} {Q:Post} {h:AHeap}
theorem W_ret_iff {x:AExit} {vs:List AVal}:W C (.ret x vs) Q h↔Q x vs h:=by refine⟨λhw=>?_,W_ret⟩;obtain⟨n,x',vs',h',hr,q⟩:=hw.succ;obtain⟨rfl,rfl,rfl⟩:=hr;exact q
theorem W_fail_iff:W C .fail Q h↔False:=by refine⟨λhw=>?_,λh=>h.elim⟩;obtain⟨n,x',vs',h',hr,q⟩:=hw.succ;simp[IT.step] at hr
def opW {α:Type} (o:Option α) (f:α→Prop):Prop:=∃v,o=some v∧f v
theorem opW_congr {α:Type} {o o':Option α} {f:α→Prop} (h:o=o'):opW o f=opW o' f:=by rw[h]
theorem opW_some {α:Type} {v:α} {f:α→Prop}:opW (some v) f=f v:=propext (by
 constructor
 ·rintro⟨_,e,h⟩;cases e;exact h
 ·intro h;exact⟨v,rfl,h⟩)
theorem opW_none {α:Type} {f:α→Prop}:opW (none:Option α) f=False:=propext (by
 constructor
 ·rintro⟨_,e,_⟩;cases e
 ·exact False.elim)
theorem W_op_iff {o:POp} {args:List AVal} {k:AVal→IT}:W C (.op o args k) Q h↔opW (peval o args) λv=>W C (k v) Q h:=by
 refine⟨λhw=>?_,λ⟨v,hv,hw⟩=>W_op hv hw⟩;obtain⟨n,x',vs',h',hr,q⟩:=hw.succ;simp only[IT.step] at hr;split at hr
 ·rename_i v hv;exact⟨v,hv,W_succ ⟨n,x',vs',h',hr,q⟩⟩
 ·cases hr
theorem W_cells_iff {n:Nat} {v:AVal} {k:List AVal→IT}:W C (.cells n v k) Q h↔opW (if v.cells.length=n then some v.cells else none) λl=>W C (k l) Q h:=by
 constructor
 ·intro hw;obtain⟨m,x',vs',h',hr,q⟩:=hw.succ;simp only[IT.step] at hr;split at hr
  ·rename_i hv;exact⟨_,if_pos hv,W_succ ⟨m,x',vs',h',hr,q⟩⟩
  ·cases hr
 ·rintro⟨l,e,hw⟩;split at e
  ·rename_i hv;cases e;exact W_cells hv hw
  ·cases e
def cndW (v:AVal) (p q:Prop):Prop:=(v= .bool true∧p)∨(v= .bool false∧q)
theorem cndW_congr {v v':AVal} {p q:Prop} (h:v=v'):cndW v p q=cndW v' p q:=by rw[h]
theorem cndW_true {p q:Prop}:cndW (.bool true) p q=p:=by simp[cndW]
theorem cndW_false {p q:Prop}:cndW (.bool false) p q=q:=by simp[cndW]
theorem cndW_iff {b:Bool} {p q:Prop}:cndW (.bool b) p q↔(b=true→p)∧(b=false→q):=by cases b<;>simp[cndW]
theorem cndW_dec {c:Prop} [Decidable c] {p q:Prop}:cndW (.bool (decide c)) p q↔(c→p)∧(¬c→q):=by rw[cndW_iff];simp
theorem W_cnd_iff {c:AVal} {t e:IT}:W C (.cnd c t e) Q h↔cndW c (W C t Q h) (W C e Q h):=by
 constructor
 ·intro hw;obtain⟨m,x',vs',h',hr,q⟩:=hw.succ;simp only[IT.step] at hr;split at hr
  ·exact .inl ⟨rfl,W_succ ⟨m,x',vs',h',hr,q⟩⟩
  ·exact .inr ⟨rfl,W_succ ⟨m,x',vs',h',hr,q⟩⟩
  ·cases hr
 ·rintro(⟨rfl,hw⟩|⟨rfl,hw⟩)
  ·exact W_cnd (λ_=>hw) λh=>by cases h
  ·exact W_cnd (λh=>by cases h) λ_=>hw
theorem W_load_iff {n:Option Nat} {p:AVal} {k:AVal→IT}:W C (.load n p k) Q h↔opW (hload h n p) λv=>W C (k v) Q h:=by
 refine⟨λhw=>?_,λ⟨v,hv,hw⟩=>W_load hv hw⟩;obtain⟨m,x',vs',h',hr,q⟩:=hw.succ;simp only[IT.step] at hr;split at hr
 ·rename_i v hv;exact⟨v,hv,W_succ ⟨m,x',vs',h',hr,q⟩⟩
 ·cases hr
theorem W_store_iff {n:Nat} {p v:AVal} {k:IT}:W C (.store n p v k) Q h↔opW (hstore h n p v) λh1=>W C k Q h1:=by
 refine⟨λhw=>?_,λ⟨v,hv,hw⟩=>W_store hv hw⟩;obtain⟨m,x',vs',h',hr,q⟩:=hw.succ;simp only[IT.step] at hr;split at hr
 ·rename_i h1 hv;exact⟨h1,hv,W_succ ⟨m,x',vs',h',hr,q⟩⟩
 ·cases hr
theorem W_alloc_iff {n:Nat} {v:AVal} {k:AVal→IT}:W C (.alloc n v k) Q h↔opW (if v.cells.length=n then some v.cells else none) λl=>W C (k (.ptr (some (h.length,0)))) Q (h++[.cells l]):=by
 constructor
 ·intro hw;obtain⟨m,x',vs',h',hr,q⟩:=hw.succ;simp only[IT.step,halloc] at hr;by_cases hv:v.cells.length=n
  ·rw[if_pos hv] at hr;exact⟨_,if_pos hv,W_succ ⟨m,x',vs',h',hr,q⟩⟩
  ·grind
 ·rintro⟨l,e,hw⟩;split at e
  ·rename_i hv;cases e;exact W_alloc hv hw
  ·cases e
theorem W_frz_iff {u:AVal} {k:AVal→IT}:W C (.frz u k) Q h↔opW (hfrz h u) λx=>W C (k x.2) Q x.1:=by
 refine⟨λhw=>?_,λ⟨(h1,v),hv,hw⟩=>W_frz hv hw⟩;obtain⟨m,x',vs',h',hr,q⟩:=hw.succ;simp only[IT.step] at hr;split at hr
 ·rename_i h1 v hv;exact⟨(h1,v),hv,W_succ ⟨m,x',vs',h',hr,q⟩⟩
 ·cases hr
theorem W_frzAt_iff {off:Nat} {p:AVal} {k:IT}:W C (.frzAt off p k) Q h↔opW (hfrzAt h off p) λh1=>W C k Q h1:=by
 refine⟨λhw=>?_,λ⟨h1,hv,hw⟩=>W_frzAt hv hw⟩;obtain⟨m,x',vs',h',hr,q⟩:=hw.succ;simp only[IT.step] at hr;split at hr
 ·rename_i h1 hv;exact⟨h1,hv,W_succ ⟨m,x',vs',h',hr,q⟩⟩
 ·cases hr
theorem W_objOf_iff {size bytes:Nat} {s x:AVal} {k:AVal→IT}:W C (.objOf size bytes s x k) Q h↔opW (hobjOf h size bytes s x) λx=>W C (k x.2) Q x.1:=by
 refine⟨λhw=>?_,λ⟨(h1,v),hv,hw⟩=>W_objOf hv hw⟩;obtain⟨m,x',vs',h',hr,q⟩:=hw.succ;simp only[IT.step] at hr;split at hr
 ·rename_i h1 v hv;exact⟨(h1,v),hv,W_succ ⟨m,x',vs',h',hr,q⟩⟩
 ·cases hr
theorem W_grow_iff {size bytes:Nat} {s x:AVal} {k:AVal→IT}:W C (.grow size bytes s x k) Q h↔opW (hgrow h size bytes s x) λx=>W C (k x.2) Q x.1:=by
 refine⟨λhw=>?_,λ⟨(h1,v),hv,hw⟩=>W_grow hv hw⟩;obtain⟨m,x,vs',h',hr,q⟩:=hw.succ;simp only[IT.step] at hr;split at hr
 ·rename_i h1 v hv;exact⟨(h1,v),hv,W_succ ⟨m,x,vs',h',hr,q⟩⟩
 ·cases hr
theorem W_appendM_iff {size bytes:Nat} {s x:AVal} {k:AVal→IT}:W C (.appendM size bytes s x k) Q h↔opW (happM h size bytes s x) λv=>W C (k v) Q h:=by
 refine⟨λhw=>?_,λ⟨v,hv,hw⟩=>W_appendM hv hw⟩;obtain⟨m,x,vs',h',hr,q⟩:=hw.succ;simp only[IT.step] at hr;split at hr
 ·rename_i v hv;exact⟨v,hv,W_succ ⟨m,x,vs',h',hr,q⟩⟩
 ·cases hr
theorem W_mem_iff {o:MOp} {args:List AVal} {k:AVal→IT}:W C (.mem o args k) Q h↔opW (meval o h args) λx=>W C (k x.2) Q x.1:=by
 refine⟨λhw=>?_,λ⟨(h1,v),hv,hw⟩=>W_mem hv hw⟩;obtain⟨n,x,vs,h',hr,q⟩:=hw.succ;simp only[IT.step] at hr;split at hr
 ·rename_i h1 v hv;exact⟨(h1,v),hv,W_succ ⟨n,x,vs,h',hr,q⟩⟩
 ·cases hr
theorem W_bytesObj_iff {s:AVal} {k:AVal→IT}:W C (.bytesObj s k) Q h↔opW (hbytesObj h s) λx=>W C (k x.2) Q x.1:=by
 refine⟨λhw=>?_,λ⟨(h1,v),hv,hw⟩=>W_bytesObj hv hw⟩;obtain⟨m,x',vs',h',hr,q⟩:=hw.succ;simp only[IT.step] at hr;split at hr
 ·rename_i h1 v hv;exact⟨(h1,v),hv,W_succ ⟨m,x',vs',h',hr,q⟩⟩
 ·cases hr
theorem W_mnew_iff {k:AVal→IT}:W C (.mnew k) Q h↔W C (k (.map (some h.length))) Q (h++[.map []]):=by refine⟨λhw=>?_,W_mnew⟩;obtain⟨m,x',vs',h',hr,q⟩:=hw.succ;exact W_succ ⟨m,x',vs',h',hr,q⟩
theorem W_mset_iff {m key v:AVal} {k:IT}:W C (.mset m key v k) Q h↔opW (hmset h m key v) λh1=>W C k Q h1:=by
 refine⟨λhw=>?_,λ⟨h1,hv,hw⟩=>W_mset hv hw⟩;obtain⟨m,x',vs',h',hr,q⟩:=hw.succ;simp only[IT.step] at hr;split at hr
 ·rename_i h1 hv;exact⟨h1,hv,W_succ ⟨m,x',vs',h',hr,q⟩⟩
 ·cases hr
theorem W_mget_iff {z:AVal} {ok:Bool} {m key:AVal} {k:AVal→IT}:W C (.mget z ok m key k) Q h↔opW (hmget h z ok m key) λv=>W C (k v) Q h:=by
 refine⟨λhw=>?_,λ⟨h1,hv,hw⟩=>W_mget hv hw⟩;obtain⟨m,x',vs',h',hr,q⟩:=hw.succ;simp only[IT.step] at hr;split at hr
 ·rename_i h1 hv;exact⟨h1,hv,W_succ ⟨m,x',vs',h',hr,q⟩⟩
 ·cases hr
theorem W_callv_iff {g:AVal} {args:List AVal} {k:AVal→IT}:W C (.callv g args k) Q h↔opW (targetOf g args) λx=>W C (.call x.1 x.2 k) Q h:=by
 constructor
 ·intro hw;obtain⟨m,x',vs',h',hr,q⟩:=hw.succ;simp only[IT.step] at hr;split at hr
  ·rename_i f as e;refine⟨(f,as),e,W_succ ⟨m,x',vs',h',?_,q⟩⟩;simp only[IT.step];exact hr
  ·cases hr
 ·rintro⟨⟨f,as⟩,e,hw⟩;obtain⟨m,x',vs',h',hr,q⟩:=hw.succ;refine W_succ ⟨m,x',vs',h',?_,q⟩;simp only[IT.step,e] at hr⊢;exact hr
theorem W_join_iff {key:Nat} {t:IT} {k:AExit→List AVal→IT}:W C (.join key t k) Q h↔W C t (λx vs h1=>W C (k x vs) Q h1) h:=by
 refine⟨λhw=>?_,W_join⟩;obtain⟨m,x',vs',h',hr,q⟩:=hw.succ;simp only[IT.step] at hr;split at hr
 ·rename_i x vs h1 e;exact W_succ ⟨m,_,_,_,e,W_succ ⟨m,x',vs',h',hr,q⟩⟩
 ·cases hr
abbrev Ret (C:Ctx) (f:FuncId) (args:List AVal) (h:AHeap) (r:AVal) (h':AHeap):Prop:=∀(Q:Post) (k:AVal→IT),W C (.call f args k) Q h↔W C (k r) Q h'
theorem ret_iff {C:Ctx} {f:FuncId} {args:List AVal} {h h':AHeap} {r:AVal}:Ret C f args h r h'↔W C (afun C f args) (λx vs h1=>x= .ret∧vs=[r]∧h1=h') h:=by
 constructor
 ·intro hr;have hw:=(hr (λx vs h1=>x= .ret∧vs=[r]∧h1=h') λv=> .ret .ret [v]).2 (W_ret ⟨rfl,rfl,rfl⟩);obtain⟨m,x,vs,h1,e,rfl,rfl,rfl⟩:=hw.succ;simp only[IT.step] at e;split at e
  ·rename_i e3
   cases e
   exact⟨m,_,_,_,e3,rfl,rfl,rfl⟩
  ·cases e
 ·intro hr Q k;refine⟨λhw=>?_,λhw=>W_call (W.mono hr λ_ _ _ ⟨h1,h2,h3⟩=>⟨h1,r,h2,by rw[h3];exact hw⟩)⟩;obtain⟨n,x1,vs1,h1,e1,rfl,rfl,rfl⟩:=hr;obtain⟨m,x',vs',h2,e2,q⟩:=hw.succ;simp only[IT.step] at e2;split at e2
  ·rename_i r2 h3 e3;have a1:=IT.run_le (Nat.le_max_left n m) e1;have a2:=IT.run_le (Nat.le_max_right n m) e3;rw[a1] at a2
   cases a2
   exact W_succ ⟨m,x',vs',h2,e2,q⟩
  ·cases e2
theorem Ret.ev {f:FuncId} {args:List AVal} {r:AVal} {h':AHeap} (hr:Ret C f args h r h') {R:AVal→AHeap→Prop} (hR:R r h'):Ev C f args h R:=
 W.mono (ret_iff.1 hr) λ_ _ _ ⟨h1,h2,h3⟩=>⟨h1,r,h2,by rw[h3];exact hR⟩
theorem Ret.call {f:FuncId} {args:List AVal} {r:AVal} {h':AHeap} (hr:Ret C f args h r h') {k:AVal→IT}:W C (.call f args k) Q h↔W C (k r) Q h':=hr _ _
def PRet (C:Ctx) (f:FuncId) (args:List AVal) (r:AVal):Prop:=Ev C f args [] λx _=>x=r
theorem PRet.pcall {f:FuncId} {args:List AVal} {r:AVal} (hr:PRet C f args r) (ha:args.all AVal.flat=true) (hf:r.flat=true) {k:AVal→IT}:W C (.pcall f args k) Q h↔W C (k r) Q h:=by
 refine⟨λhw=>?_,λhw=>W_pcall ha (hr.mono λx _ e=>by rw[e];exact⟨hf,hw⟩)⟩;obtain⟨n,x1,vs1,h1,e1,rfl,y,rfl,rfl⟩:=hr;obtain⟨m,x',vs',h2,e2,q⟩:=hw.succ;simp only[IT.step,ha,if_true] at e2;simp only[Ctx.run] at e1 e2;have a1:=IT.run_le (Nat.le_max_left n m) e1
 cases hc:IT.run (afun C) m (afun C f args) [] with
 |none=>rw[hc] at e2;cases e2
 |some z=>
  have a2:=IT.run_le (Nat.le_max_right n m) hc;rw[a1] at a2
  cases a2
  rw[hc] at e2;simp only[hf,if_true] at e2;exact W_succ ⟨m,x',vs',h2,e2,q⟩
end
theorem W_congr {C:Ctx} {t t':IT} {Q:Post} {h h':AHeap} (e:t=t') (e2:h=h'):W C t Q h=W C t' Q h':=by rw[e,e2]
theorem op_congr {o:POp} {args args':List AVal} {k:AVal→IT} (e:args=args'):IT.op o args k=IT.op o args' k:=by rw[e]
theorem cells_congr {n:Nat} {v v':AVal} {k:List AVal→IT} (e:v=v'):IT.cells n v k=IT.cells n v' k:=by rw[e]
theorem cnd_congr {v v':AVal} {s t:IT} (e:v=v'):IT.cnd v s t=IT.cnd v' s t:=by rw[e]
theorem load_congr {n:Option Nat} {v v':AVal} {k:AVal→IT} (e:v=v'):IT.load n v k=IT.load n v' k:=by rw[e]
theorem store_congr {n:Nat} {p p' v v':AVal} {k:IT} (e1:p=p') (e:v=v'):IT.store n p v k=IT.store n p' v' k:=by rw[e,e1]
theorem alloc_congr {n:Nat} {v v':AVal} {k:AVal→IT} (e:v=v'):IT.alloc n v k=IT.alloc n v' k:=by rw[e]
theorem call_congr {f:FuncId} {args args':List AVal} {k:AVal→IT} (e:args=args'):IT.call f args k=IT.call f args' k:=by rw[e]
theorem pcall_congr {f:FuncId} {args args':List AVal} {k:AVal→IT} (e:args=args'):IT.pcall f args k=IT.pcall f args' k:=by rw[e]
theorem callv_congr {f f':AVal} {args args':List AVal} {k:AVal→IT} (e1:f=f') (e:args=args'):IT.callv f args k=IT.callv f' args' k:=by rw[e,e1]
theorem loop_congr {key:Nat} {i i':List AVal} {b:List AVal→IT} {k:AExit→List AVal→IT} (e:i=i'):IT.loop key i b k=IT.loop key i' b k:=by rw[e]
theorem join_congr {key:Nat} {b:IT} {k:AExit→List AVal→IT}:IT.join key b k=IT.join key b k:=rfl
theorem frz_congr {v v':AVal} {k:AVal→IT} (e:v=v'):IT.frz v k=IT.frz v' k:=by rw[e]
theorem objOf_congr {size bytes:Nat} {s s' x x':AVal} {k:AVal→IT} (e:s=s') (e1:x=x'):IT.objOf size bytes s x k=IT.objOf size bytes s' x' k:=by rw[e,e1]
theorem grow_congr {size bytes:Nat} {s s' x x':AVal} {k:AVal→IT} (e:s=s') (e1:x=x'):IT.grow size bytes s x k=IT.grow size bytes s' x' k:=by rw[e,e1]
theorem mem_congr {o:MOp} {args args':List AVal} {k:AVal→IT} (e:args=args'):IT.mem o args k=IT.mem o args' k:=by rw[e]
theorem appendM_congr {size bytes:Nat} {s s' x x':AVal} {k:AVal→IT} (e:s=s') (e1:x=x'):IT.appendM size bytes s x k=IT.appendM size bytes s' x' k:=by rw[e,e1]
theorem frzAt_congr {off:Nat} {p p':AVal} {k:IT} (e:p=p'):IT.frzAt off p k=IT.frzAt off p' k:=by rw[e]
theorem bytesObj_congr {s s':AVal} {k:AVal→IT} (e:s=s'):IT.bytesObj s k=IT.bytesObj s' k:=by rw[e]
theorem mset_congr {m m' key key' v v':AVal} {k:IT} (e:m=m') (e1:key=key') (e2:v=v'):IT.mset m key v k=IT.mset m' key' v' k:=by rw[e,e1,e2]
theorem mget_congr {z:AVal} {ok:Bool} {m m' key key':AVal} {k:AVal→IT} (e:m=m') (e1:key=key'):IT.mget z ok m key k=IT.mget z ok m' key' k:=by rw[e,e1]
attribute [congr] opW_congr cndW_congr W_congr op_congr cells_congr cnd_congr load_congr store_congr alloc_congr call_congr pcall_congr callv_congr loop_congr join_congr frz_congr frzAt_congr grow_congr appendM_congr mem_congr objOf_congr bytesObj_congr mset_congr mget_congr
attribute [simp] opW_some opW_none cndW_true cndW_false cndW_dec cndW_iff W_ret_iff W_fail_iff W_op_iff W_cells_iff W_cnd_iff W_load_iff W_store_iff W_alloc_iff W_frz_iff W_frzAt_iff W_grow_iff W_appendM_iff W_mem_iff W_objOf_iff W_bytesObj_iff W_mnew_iff W_mset_iff W_mget_iff W_callv_iff W_join_iff
section
variable {k:IntKind} {a b:Int} {s t:Bytes}
@[simp] theorem pe_eql:peval (.int .eql) [.int k a,.int k b]=some (.bool (decide (a=b))):=by cases k<;>rfl
@[simp] theorem pe_neq:peval (.int .neq) [.int k a,.int k b]=some (.bool (decide (a≠b))):=by
 have e:peval (.int .neq) [.int k a,.int k b]=some (.bool (!(a==b))):=by cases k<;>rfl
 rw[e];by_cases h:a=b<;>simp[h]
@[simp] theorem pe_lss:peval (.int .lss) [.int k a,.int k b]=some (.bool (decide (a<b))):=by cases k<;>rfl
@[simp] theorem pe_leq:peval (.int .leq) [.int k a,.int k b]=some (.bool (decide (a≤b))):=by cases k<;>rfl
@[simp] theorem pe_gtr:peval (.int .gtr) [.int k a,.int k b]=some (.bool (decide (b<a))):=by cases k<;>rfl
@[simp] theorem pe_geq:peval (.int .geq) [.int k a,.int k b]=some (.bool (decide (b≤a))):=by cases k<;>rfl
theorem pe_add:peval (.int .add) [.int k a,.int k b]=some (.int k (k.wrap (a+b))):=by cases k<;>rfl
theorem pe_sub:peval (.int .sub) [.int k a,.int k b]=some (.int k (k.wrap (a-b))):=by cases k<;>rfl
@[simp] theorem pe_not {b:Bool}:peval (.un .not) [.bool b]=some (.bool (!b)):=rfl
@[simp] theorem pe_seql:peval (.str .eql) [.str s,.str t]=some (.bool (decide (s=t))):=by
 show some (AVal.bool (s==t))=_
 congr 2
 by_cases h:s=t<;>simp[h]
@[simp] theorem pe_sneq:peval (.str .neq) [.str s,.str t]=some (.bool (decide (s≠t))):=by
 show some (AVal.bool (!(s==t)))=_
 congr 2
 by_cases h:s=t<;>simp[h]
@[simp] theorem pe_slen:peval (.len true) [.str s]=some (.int .i64 s.length):=rfl
@[simp] theorem pe_sidx {i:Int}:peval .sidx [.str s,.int k i]=if 0≤i then(s[i.toNat]?).map λb=> .int .u8 b.toNat else none:=rfl
@[simp] theorem pe_part_none {off:Nat} {cs:List AVal}:peval (.part off none) [.agg cs]=cs[off]?:=rfl
@[simp] theorem pe_part_some {off n:Nat} {cs:List AVal}:peval (.part off (some n)) [.agg cs]=if off+n≤cs.length then some (.agg ((cs.drop off).take n)) else none:=rfl
@[simp] theorem pe_ext {i:Nat} {vs:List AVal}:peval (.ext i) [.tuple vs]=vs[i]?:=rfl
@[simp] theorem pe_nonnil_ptr {p:Nat×Nat}:peval .nonnil [.ptr (some p)]=some (.ptr (some p)):=rfl
@[simp] theorem pe_nonnil_rptr {cs:List AVal}:peval .nonnil [.rptr cs]=some (.rptr cs):=rfl
@[simp] theorem pe_nonnil_func {f:FuncId} {a b:List AVal}:peval .nonnil [.func (.func f) a b]=some (.func (.func f) a b):=rfl
@[simp] theorem pe_faddr_rptr {off:Nat} {cs:List AVal}:peval (.faddr off) [.rptr cs]=some (.rptr (cs.drop off)):=rfl
@[simp] theorem pe_faddr_ptr {off id o:Nat}:peval (.faddr off) [.ptr (some (id,o))]=some (.ptr (some (id,o+off))):=rfl
@[simp] theorem pe_peq_nn {neg:Bool}:peval (.peq neg) [.ptr none,.ptr none]=some (.bool (true != neg)):=rfl
@[simp] theorem pe_peq_sn {neg:Bool} {p:Nat×Nat}:peval (.peq neg) [.ptr (some p),.ptr none]=some (.bool (false != neg)):=rfl
@[simp] theorem pe_peq_ns {neg:Bool} {p:Nat×Nat}:peval (.peq neg) [.ptr none,.ptr (some p)]=some (.bool (false != neg)):=rfl
@[simp] theorem pe_beq {neg a b:Bool}:peval (.beq neg) [.bool a,.bool b]=some (.bool ((a==b) != neg)):=rfl
@[simp] theorem pe_pick {c:Bool} {a b:AVal}:peval .pick [.bool c,a,b]=some (if c then a else b):=rfl
@[simp] theorem pe_conv {l:IntKind}:peval (.conv l) [.int k a]=some (.int l (l.wrap a)):=rfl
@[simp] theorem pe_mkagg {zero args:List AVal} {places:List (Nat×Nat)}:peval (.mkagg zero places) args=if places.length=args.length then(fillAt zero (places.zip args)).map .agg else none:=rfl
@[simp] theorem pe_geq_agg {neg:Bool} {ks:List FK} {x y:List AVal}:peval (.geq neg ks) [.agg x,.agg y]=(flatEqs ks x y).map λe=> .bool (e != neg):=rfl
@[simp] theorem pe_min:peval (.minmax false) [.int k a,.int k b]=some (.int k (if b<a then b else a)):=by simp[peval]
@[simp] theorem pe_max:peval (.minmax true) [.int k a,.int k b]=some (.int k (if a<b then b else a)):=by simp[peval]
@[simp] theorem hload_rptr {h:AHeap} {n:Option Nat} {cs:List AVal}:hload h n (.rptr cs)=partOf cs 0 n:=rfl
@[simp] theorem partOf_none {off:Nat} {cs:List AVal}:partOf cs off none=cs[off]?:=rfl
@[simp] theorem partOf_some {off n:Nat} {cs:List AVal}:partOf cs off (some n)=if off+n≤cs.length then some (.agg ((cs.drop off).take n)) else none:=rfl
@[simp] theorem wrap_i64 (h1: -9223372036854775808≤a) (h2:a<9223372036854775808):IntKind.i64.wrap a=a:=by rw[IntKind.wrap_i64];omega
end
theorem cells_agg {cs:List AVal}:AVal.cells (.agg cs)=cs:=rfl
theorem cells_int {k:IntKind} {n:Int}:AVal.cells (.int k n)=[.int k n]:=rfl
theorem cells_str {s:Bytes}:AVal.cells (.str s)=[.str s]:=rfl
theorem cells_bool {b:Bool}:AVal.cells (.bool b)=[.bool b]:=rfl
theorem cells_ptr {p:Option (Nat×Nat)}:AVal.cells (.ptr p)=[.ptr p]:=rfl
theorem cells_rptr {p:List AVal}:AVal.cells (.rptr p)=[.rptr p]:=rfl
theorem cells_slnil:AVal.cells .slnil=[.slnil]:=rfl
theorem cells_sl {z:Nat} {r:List (List AVal)}:AVal.cells (.sl z r)=[.sl z r]:=rfl
theorem cells_msl {i o l z:Nat}:AVal.cells (.msl i o l z)=[.msl i o l z]:=rfl
theorem cells_func {f:Fn} {a b:List AVal}:AVal.cells (.func f a b)=[.func f a b]:=rfl
attribute [simp] fillAt flatEqs flatEq targetOf cells_agg cells_int cells_str cells_bool cells_ptr cells_rptr cells_slnil cells_sl cells_msl cells_func
def IsSl (z:Nat) (rows:List (List AVal)) (v:AVal):Prop:=v= .sl z rows∨(v= .slnil∧rows=[])
section
variable {z:Nat} {rows:List (List AVal)} {v:AVal}
theorem IsSl.mk:IsSl z rows (.sl z rows):= .inl rfl
theorem IsSl.nil:IsSl z [] .slnil:= .inr ⟨rfl,rfl⟩
theorem IsSl.cells (h:IsSl z rows v):v.cells=[v]:=by rcases h with rfl|⟨rfl,rfl⟩<;>rfl
theorem IsSl.len (h:IsSl z rows v):peval (.len false) [v]=some (.int .i64 rows.length):=by rcases h with rfl|⟨rfl,rfl⟩<;>rfl
theorem IsSl.eaddr (h:IsSl z rows v) {k:IntKind} {n:Nat} (hn:n<rows.length):peval (.eaddr z) [v,.int k (n:Int)]=some (.rptr rows[n]):=by
 rcases h with rfl|⟨rfl,rfl⟩
 ·simp[peval,elemOf,hn]
 ·simp at hn
end
end Go.Am
end
section
namespace Go.Am
open Go
section
variable {C:Ctx} {Q:Post} {h:AHeap}
theorem W_loop_step {key:Nat} {vs:List AVal} {body:List AVal→IT} {k:AExit→List AVal→IT}
  (hw:W C (body vs) (λx vs1 h1=>(x= .normal∧W C (.loop key vs1 body k) Q h1)∨(x≠ .normal∧W C (k x vs1) Q h1)) h):W C (.loop key vs body k) Q h:=by
 obtain⟨m,x,vs1,h1,hr,hcase⟩:=hw.succ;rcases hcase with⟨rfl,hw⟩|⟨hx,hw⟩
 ·obtain⟨m',x',vs',h',hr',q⟩:=hw;refine W_succ ⟨max m m',x',vs',h',?_,q⟩;have e1:=IT.step_mono (λt h r=>IT.run_le (Nat.le_max_left m m')) _ _ _ hr;have e2:=IT.run_le (Nat.le_max_right m m') hr';simp only[IT.step]
  grind
 ·obtain⟨m',x',vs',h',hr',q⟩:=hw.succ;refine W_succ ⟨max m m',x',vs',h',?_,q⟩;have e1:=IT.step_mono (λt h r=>IT.run_le (Nat.le_max_left m m')) _ _ _ hr;have e2:=IT.step_mono (λt h r=>IT.run_le (Nat.le_max_right m m')) _ _ _ hr';simp only[IT.step]
  grind
def LoopPost {σ:Type} (C:Ctx) (enc:σ→List AVal) (inv:σ→AHeap→Prop) (μ:σ→Nat) (k:AExit→List AVal→IT) (Q:Post) (s:σ):Post:=
 λx vs h1=>(x= .normal∧∃s',vs=enc s'∧inv s' h1∧μ s'<μ s)∨(x≠ .normal∧W C (k x vs) Q h1)
variable {σ:Type} {enc:σ→List AVal} {inv:σ→AHeap→Prop} {μ:σ→Nat} {k:AExit→List AVal→IT} {s:σ} {vs:List AVal}
theorem LoopPost.next (s':σ) (e:vs=enc s') (hi:inv s' h) (hl:μ s'<μ s):LoopPost C enc inv μ k Q s .normal vs h:= .inl ⟨rfl,s',e,hi,hl⟩
theorem LoopPost_exit {i:Nat}:LoopPost C enc inv μ k Q s (.exit i) vs h↔W C (k (.exit i) vs) Q h:=by simp[LoopPost]
theorem LoopPost_ret:LoopPost C enc inv μ k Q s .ret vs h↔W C (k .ret vs) Q h:=by simp[LoopPost]
theorem W_loop_st {key:Nat} {init:List AVal} {body:List AVal→IT} (enc:σ→List AVal) (inv:σ→AHeap→Prop) (μ:σ→Nat) (s0:σ) (h0:init=enc s0) (hi:inv s0 h)
  (round:∀s h,inv s h→W C (body (enc s)) (LoopPost C enc inv μ k Q s) h):W C (.loop key init body k) Q h:=by
 have key:∀n s h,μ s=n→inv s h→W C (.loop key (enc s) body k) Q h:=by
  intro n
  induction n using Nat.strongRecOn with
  |_ n ih=>
   intro s h hn hI;refine W_loop_step (W.mono (round s h hI) ?_);rintro x vs h1 (⟨rfl,s',rfl,hi',hl⟩|⟨hx,hw⟩)
   ·grind
   ·exact .inr ⟨hx,hw⟩
 grind
end
section
variable {k l:IntKind} {s:Bytes}
theorem pe_sidx_nat {n:Nat} (hn:n<s.length):peval .sidx [.str s,.int k (n:Int)]=some (.int .u8 (s[n].toNat:Int)):=by simp[hn]
theorem pe_inc {n:Nat} (hn:n<9223372036854775807):peval (.int .add) [.int .i64 (n:Int),.int .i64 1]=some (.int .i64 ((n+1:Nat):Int)):=by rw[pe_add,wrap_i64 (by omega) (by omega)];rfl
theorem pe_incN (n:Nat) (hn:n<9223372036854775807:=by omega):peval (.int .add) [.int .i64 (n:Int),.int .i64 1]=some (.int .i64 ((n+1:Nat):Int)):=pe_inc hn
theorem ieq:¬(1:Int)=0∧¬(1:Int)=2∧¬(1:Int)=3∧¬(1:Int)=4∧¬(1:Int)=5∧¬(1:Int)=6∧¬(2:Int)=1∧¬(2:Int)=3∧¬(2:Int)=4∧¬(2:Int)=5∧¬(2:Int)=6∧¬(3:Int)=0∧¬(3:Int)=2∧¬(3:Int)=4∧¬(3:Int)=5∧¬(3:Int)=6∧¬(4:Int)=1∧¬(4:Int)=2∧¬(4:Int)=5∧¬(6:Int)=2∧¬(6:Int)=4∧¬(6:Int)=5:=by decide
end
section
variable {z b:Nat} {r r2:List (List AVal)} {row:List AVal} {v v2:AVal}
theorem IsSl.app1 (h:IsSl z r v) (hb:(r.length+1)*b≤maxBytes):peval (.append z b) [v,.sl z [row]]=some (.sl z (r++[row])):=by
 rcases h with rfl|⟨rfl,rfl⟩
 ·simp[peval,appendOf,appendTo,hb]
 ·have:1*b≤maxBytes:=by simpa using hb
  simp only[Nat.one_mul] at this;simp[peval,appendOf,appendTo,this]
theorem bytes_rows (s:Bytes):bytesOf (rowsOf s)=some s:=by
 induction s with
 |nil=>rfl
 |cons c s ih=>have e:rowsOf (c::s)=[.int .u8 c.toNat]::rowsOf s:=rfl;rw[e,bytesOf,ih];simp
theorem IsSl.b2s {s:Bytes} (h:IsSl 1 (rowsOf s) v):peval .b2s [v]=some (.str s):=by
 rcases h with rfl|⟨rfl,h⟩
 ·simp[peval,textOf,bytes_rows]
 ·have e:s=[]:=by simpa[rowsOf] using h
  subst e;rfl
end
@[simp] theorem pe_mksl {z:Nat} {args:List AVal}:peval (.mksl z) args=if args.all (λa=>a.cells.length==z)&&decide (args.length*z≤16777216) then some (.sl z (args.map (·.cells))) else none:=rfl
theorem pe_mksl1 {a:AVal} {z:Nat} (h:a.cells.length=z) (hz:z≤16777216):peval (.mksl z) [a]=some (.sl z [a.cells]):=by simp[h,hz]
theorem wrap_u8 {a:Int} (h:0≤a∧a≤255):IntKind.u8.wrap a=a:=IntWalk.u8_in a h
theorem wrap_i32 {a:Int} (h: -2147483648≤a∧a≤2147483647):IntKind.i32.wrap a=a:=IntWalk.i32_in a h
abbrev Tq1 (C:Ctx) (f:FuncId) (t:AVal→IT):Prop:=∀a0,afun C f [a0]=t a0
abbrev Tq2 (C:Ctx) (f:FuncId) (t:AVal→AVal→IT):Prop:=∀a0 a1,afun C f [a0,a1]=t a0 a1
abbrev Tq3 (C:Ctx) (f:FuncId) (t:AVal→AVal→AVal→IT):Prop:=∀a0 a1 a2,afun C f [a0,a1,a2]=t a0 a1 a2
abbrev Tq4 (C:Ctx) (f:FuncId) (t:AVal→AVal→AVal→AVal→IT):Prop:=∀a0 a1 a2 a3,afun C f [a0,a1,a2,a3]=t a0 a1 a2 a3
abbrev Tq5 (C:Ctx) (f:FuncId) (t:AVal→AVal→AVal→AVal→AVal→IT):Prop:=∀a0 a1 a2 a3 a4,afun C f [a0,a1,a2,a3,a4]=t a0 a1 a2 a3 a4
def IT.fa (p:AVal) (k:Nat) (K:AVal→AVal→IT):IT:= .op .nonnil [p] λa=> .op (.faddr k) [a] λb=>K a b
def IT.fld (p:AVal) (k:Nat) (K:AVal→AVal→AVal→IT):IT:= .op .nonnil [p] λa=> .op (.faddr k) [a] λb=> .load none b λc=>K a b c
def IT.fl (p:AVal) (k:Nat) (K:AVal→AVal→IT):IT:= .op (.faddr k) [p] λa=> .load none a λb=>K a b
def nx (A R:List AVal→IT):AExit→List AVal→IT:=λx c=>match x with
 | .normal=>A c
 | .exit _=> .fail
 | .ret=>R c
def lx (k:Nat) (A R:List AVal→IT):AExit→List AVal→IT:=λx c=>match x with
 | .normal=> .fail
 | .exit i=>if i=k then A c else .fail
 | .ret=>R c
section
variable {C:Ctx} {Q:Post} {h:AHeap} {p:AVal} {k:Nat} {A R:List AVal→IT} {c:List AVal}
theorem W_fa {K:AVal→AVal→IT}:W C (IT.fa p k K) Q h=W C (.op .nonnil [p] λa=> .op (.faddr k) [a] λb=>K a b) Q h:=rfl
theorem W_fld {K:AVal→AVal→AVal→IT}:W C (IT.fld p k K) Q h=W C (.op .nonnil [p] λa=> .op (.faddr k) [a] λb=> .load none b λc=>K a b c) Q h:=rfl
theorem W_fl {K:AVal→AVal→IT}:W C (IT.fl p k K) Q h=W C (.op (.faddr k) [p] λa=> .load none a λb=>K a b) Q h:=rfl
theorem nx_n:nx A R .normal c=A c:=rfl
theorem nx_r:nx A R .ret c=R c:=rfl
theorem lx_e:lx k A R (.exit k) c=A c:=if_pos rfl
theorem lx_r:lx k A R .ret c=R c:=rfl
end
theorem amS:type_of%(And.intro @W_fa (And.intro @W_fld (And.intro @W_fl (And.intro @nx_n (And.intro @nx_r (And.intro @lx_e (And.intro @lx_r (And.intro @opW_some (And.intro @opW_none (And.intro @cndW_true (And.intro @cndW_false (And.intro @cndW_dec (And.intro @W_ret_iff (And.intro @W_fail_iff (And.intro @W_op_iff (And.intro @W_cells_iff (And.intro @W_cnd_iff (And.intro @W_load_iff (And.intro @W_store_iff (And.intro @W_alloc_iff (And.intro @W_frz_iff (And.intro @W_frzAt_iff (And.intro @W_grow_iff (And.intro @W_appendM_iff (And.intro @W_mem_iff (And.intro @W_objOf_iff (And.intro @W_bytesObj_iff (And.intro @W_mnew_iff (And.intro @W_mset_iff (And.intro @W_mget_iff (And.intro @W_callv_iff (And.intro @W_join_iff (And.intro @pe_eql (And.intro @pe_neq (And.intro @pe_lss (And.intro @pe_leq (And.intro @pe_gtr (And.intro @pe_geq (And.intro @pe_not (And.intro @pe_seql (And.intro @pe_sneq (And.intro @pe_slen (And.intro @pe_part_none (And.intro @pe_part_some (And.intro @pe_ext (And.intro @pe_nonnil_ptr (And.intro @pe_nonnil_rptr (And.intro @pe_nonnil_func (And.intro @pe_faddr_rptr (And.intro @pe_faddr_ptr (And.intro @pe_peq_nn (And.intro @pe_peq_sn (And.intro @pe_peq_ns (And.intro @pe_beq (And.intro @pe_mkagg (And.intro @hload_rptr (And.intro @partOf_none (And.intro @partOf_some (And.intro @List.getD_cons_zero.{0} (And.intro @List.getD_cons_succ.{0} (And.intro @List.getElem?_cons_zero.{0} (And.intro @List.getElem?_cons_succ.{0} (And.intro @List.drop_zero.{0} (And.intro @List.drop_succ_cons.{0} (And.intro @List.drop_nil.{0} (And.intro @List.take_zero.{0} (And.intro @List.take_succ_cons.{0} (And.intro @List.length_cons.{0} (And.intro @List.length_nil.{0} (And.intro @List.cons_append.{0} (And.intro @List.nil_append.{0} (And.intro @List.zip_cons_cons.{0,0} (And.intro @List.zip_nil_right.{0,0} (And.intro @Option.map_some.{0,0} (And.intro @Option.map_none.{0,0} (And.intro @Nat.zero_add (And.intro @cells_agg (And.intro @cells_int (And.intro @cells_str (And.intro @cells_bool (And.intro @cells_ptr (And.intro @cells_rptr (And.intro @cells_slnil (And.intro @cells_sl (And.intro @cells_msl (And.intro @cells_func (And.intro @and_self (And.intro @and_true (And.intro @true_and (And.intro @if_true.{1} (And.intro @if_false.{1} (And.intro @LoopPost_exit (@LoopPost_ret))))))))))))))))))))))))))))))))))))))))))))))))))))))))))))))))))))))))))))))))))))))))))))):=And.intro @W_fa (And.intro @W_fld (And.intro @W_fl (And.intro @nx_n (And.intro @nx_r (And.intro @lx_e (And.intro @lx_r (And.intro @opW_some (And.intro @opW_none (And.intro @cndW_true (And.intro @cndW_false (And.intro @cndW_dec (And.intro @W_ret_iff (And.intro @W_fail_iff (And.intro @W_op_iff (And.intro @W_cells_iff (And.intro @W_cnd_iff (And.intro @W_load_iff (And.intro @W_store_iff (And.intro @W_alloc_iff (And.intro @W_frz_iff (And.intro @W_frzAt_iff (And.intro @W_grow_iff (And.intro @W_appendM_iff (And.intro @W_mem_iff (And.intro @W_objOf_iff (And.intro @W_bytesObj_iff (And.intro @W_mnew_iff (And.intro @W_mset_iff (And.intro @W_mget_iff (And.intro @W_callv_iff (And.intro @W_join_iff (And.intro @pe_eql (And.intro @pe_neq (And.intro @pe_lss (And.intro @pe_leq (And.intro @pe_gtr (And.intro @pe_geq (And.intro @pe_not (And.intro @pe_seql (And.intro @pe_sneq (And.intro @pe_slen (And.intro @pe_part_none (And.intro @pe_part_some (And.intro @pe_ext (And.intro @pe_nonnil_ptr (And.intro @pe_nonnil_rptr (And.intro @pe_nonnil_func (And.intro @pe_faddr_rptr (And.intro @pe_faddr_ptr (And.intro @pe_peq_nn (And.intro @pe_peq_sn (And.intro @pe_peq_ns (And.intro @pe_beq (And.intro @pe_mkagg (And.intro @hload_rptr (And.intro @partOf_none (And.intro @partOf_some (And.intro @List.getD_cons_zero.{0} (And.intro @List.getD_cons_succ.{0} (And.intro @List.getElem?_cons_zero.{0} (And.intro @List.getElem?_cons_succ.{0} (And.intro @List.drop_zero.{0} (And.intro @List.drop_succ_cons.{0} (And.intro @List.drop_nil.{0} (And.intro @List.take_zero.{0} (And.intro @List.take_succ_cons.{0} (And.intro @List.length_cons.{0} (And.intro @List.length_nil.{0} (And.intro @List.cons_append.{0} (And.intro @List.nil_append.{0} (And.intro @List.zip_cons_cons.{0,0} (And.intro @List.zip_nil_right.{0,0} (And.intro @Option.map_some.{0,0} (And.intro @Option.map_none.{0,0} (And.intro @Nat.zero_add (And.intro @cells_agg (And.intro @cells_int (And.intro @cells_str (And.intro @cells_bool (And.intro @cells_ptr (And.intro @cells_rptr (And.intro @cells_slnil (And.intro @cells_sl (And.intro @cells_msl (And.intro @cells_func (And.intro @and_self (And.intro @and_true (And.intro @true_and (And.intro @if_true.{1} (And.intro @if_false.{1} (And.intro @LoopPost_exit (@LoopPost_ret))))))))))))))))))))))))))))))))))))))))))))))))))))))))))))))))))))))))))))))))))))))))))))
theorem bxS:type_of%(And.intro @bne_self_eq_false.{0} (And.intro @beq_self_eq_true.{0} (And.intro @Bool.bne_true (And.intro @Bool.bne_false (And.intro @Bool.not_true (And.intro @Bool.not_false (And.intro @not_true_eq_false (And.intro @not_false_eq_true (And.intro @true_implies (And.intro @false_implies (And.intro @Nat.add_zero (And.intro @Nat.zero_lt_succ (And.intro @Option.map_some.{0,0} (@List.take_nil.{0})))))))))))))):=And.intro @bne_self_eq_false.{0} (And.intro @beq_self_eq_true.{0} (And.intro @Bool.bne_true (And.intro @Bool.bne_false (And.intro @Bool.not_true (And.intro @Bool.not_false (And.intro @not_true_eq_false (And.intro @not_false_eq_true (And.intro @true_implies (And.intro @false_implies (And.intro @Nat.add_zero (And.intro @Nat.zero_lt_succ (And.intro @Option.map_some.{0,0} (@List.take_nil.{0})))))))))))))
end Go.Am
end
