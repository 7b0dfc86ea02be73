/- Lemmas -/
import Derived.Test.YtkaolmlpcamojaaGreatDoorC13
set_option linter.all false
namespace Go.Am
open Go Go.RowKit Go.Shelf
section
variable{U U':Gh}{h:Ah}{w w':World}
def Hm.Õ(hi:Hm U h w):Hm U (h++[.CR]) w:=by
 have key:∀{id:Nat} {x:DA},(h++[DA.CR])[id]?=some x->x≠ .CR->h[id]?=some x:=λ{id x} hx hd=>by
  rcases AP id h.length with hl|hl
  .rwa [Aj hl] at hx
  .rw[Bm hl] at hx;cases hk:id-h.length with
   |zero=>rw[hk] at hx;cases hx;exact absurd rfl hd
   |succ k=>rw[hk] at hx;simp at hx
 exact⟨hi.Iw,λid y Ie hy=>hi.Mj id y (key Ie hy) hy,λid cs hc b hb=>hi.cells id cs (key hc AH) b hb,λid es hc b hb=>hi.map id es (key hc AH) b hb,λid b hb=>by have:=hi.mu id b hb;simp;omega,hi.Bu,hi.sz⟩
def Ö:Proofs.Tryz.prog.follows .mixedOrders=true:=Dk
abbrev IG:Array Value:=#[.int .i64 0,.int .i64 0,.slice none 0 0,.int .i64 0,.int .i64 0,.string ⟨#[]⟩,.slice none 0 0,.string ⟨#[]⟩,.string ⟨#[]⟩,.string ⟨#[]⟩,.bool false,.int .i64 0,.int .i64 0]
def aCg:(Proofs.Tryz.prog.info? 154).map (λi=>(i.zero,i.size,i.bytes))=some (some (.agg IG),13,168):=Dk
def aF4:(Proofs.Tryz.prog.info? 3).map (λi=>(i.zero,i.size,i.bytes))=some (some (.int .i64 0),1,8):=Dk
def aCh:madeCells (Value.agg IG).cells (Int.toNat 1*13)=IG:=Dk
def aF5:madeCells (Value.int .i64 0).cells (Int.toNat 1*1)=#[.int .i64 0]:=Dk
def Ø(w:World):(Instr.makeSlice 166 (.int .i64 1) (.int .i64 1)).run Proofs.Tryz.prog w= .ok (.slice (some ⟨w.heap.size,0,none⟩) 1 1) (w.alloc (.cells IG 154)):=by obtain⟨i,hi,h2⟩:=MP.1 aCg;simp only[Ir] at h2;obtain⟨h2,b,a⟩:=h2;have:=run_make (P:=Proofs.Tryz.prog) w 166 154 i _ Proofs.Tryz.underlying166 hi h2 .i64 .i64 1 1 AM AM (by rw[a];decide) AM;rw[b,aCh] at this;exact this
def aCi(w:World):(Instr.makeSlice 84 (.int .i64 1) (.int .i64 1)).run Proofs.Tryz.prog w= .ok (.slice (some ⟨w.heap.size,0,none⟩) 1 1) (w.alloc (.cells #[.int .i64 0] 3)):=by obtain⟨i,hi,h2⟩:=MP.1 aF4;simp only[Ir] at h2;obtain⟨h2,b,a⟩:=h2;have:=run_make (P:=Proofs.Tryz.prog) w 84 3 i _ Proofs.Tryz.underlying84 hi h2 .i64 .i64 1 1 AM AM (by rw[a];decide) AM;rw[b,aF5] at this;exact this
set_option maxHeartbeats 2000000 in
set_option maxRecDepth 100000 in
def aF6(w:World):Calls Proofs.Tryz.prog 61 #[] w λe w'=>e= .returned (.pointer (some ⟨w.heap.size+1+1,0,none⟩))/\
  (w' = (((w.alloc (.cells IG 154)).alloc (.cells #[.int .i64 0] 3)).alloc (.cells #[.slice (some ⟨w.heap.size, 0, none⟩) 1 1, .slice (some ⟨w.heap.size + 1, 0, none⟩) 1 1] 193)).drew \/
   w' = (((w.alloc (.cells #[.int .i64 0] 3)).alloc (.cells IG 154)).alloc (.cells #[.slice (some ⟨w.heap.size + 1, 0, none⟩) 1 1, .slice (some ⟨w.heap.size, 0, none⟩) 1 1] 193)).drew) := by
 have mixed:=Ö;have b:=Ø;have a:=aCi;go_enter Proofs.Tryz.func61,Proofs.Tryz.ntmps61
 go_wp2
 go_region_o
 all_goals go_wp2
 all_goals refine bodyPost_ret (results_tmp rfl _ _ _) rfl ?_
 .exact⟨rfl,.inl rfl⟩
 .exact⟨rfl,.inr rfl⟩
abbrev UY:List Aa:=[.int .i64 0,.int .i64 0,.slnil,.int .i64 0,.int .i64 0,.str [],.slnil,.str [],.str [],.str [],.bool false,.int .i64 0,.int .i64 0]
def m8(U:Gh):Bj U UY IG.toList:=⟨_,_,rfl,rfl,_,_,rfl,rfl,_,_,rfl,rfl,_,_,rfl,rfl,_,_,rfl,rfl,_,_,rfl,rfl,_,_,rfl,rfl,_,_,rfl,rfl,_,_,rfl,rfl,_,_,rfl,rfl,_,_,rfl,rfl,_,_,rfl,rfl,_,_,rfl,rfl,rfl⟩
def m9:∀u∈IG.toList,u.oneCell'=true:=AM
def aCj(n:Nat)(args:List Aa)(r:Aa)(h':Ah)(A3:IT.step (B9 cx) (IT.run (B9 cx) n) (Wk args) h=some (.ret,[r],h')):
  (∃fn c,cx.P.funcs[ED 61]?=some fn/\(fn.name== "runtime.NumGoroutine")=false/\fn.body=some c)/\
  ∀(U:Gh) (w:World) (cargs:Array Value),Hm U h w->(∀g cs,cx.Ha g=some cs->C8 U cs g 0)->Bj U args cargs.toList->
   Calls cx.P (ED 61) cargs w λe w'=>match e with
    | .returned v=>∃U',Hm U' h' w'/\Lm U w U' w'/\BQ U' r v/\(cx.Jl 61=true->∃s c,IZ U' w.heap.size w' s c v r)
    |_=>False:=by
 refine⟨⟨_,_,Proofs.Tryz.func61,rfl,rfl⟩,λU w cargs hi hg ha=>?_⟩;cases args with
 |cons _ _=>cases A3
 |nil=>
  have hc:cargs=#[]:=by have:=ha.length;exact F8 (by simpa using this)
  subst hc;have Q9:some (DX.ret,[Aa.ptr (some (h.length+3,0))],h++[.CR]++[.cells UY]++[.cells [.int .i64 0]]++[.cells [.CF (h.length+1) 0 1 13,.CF (h.length+2) 0 1 1]])=some (.ret,[r],h'):=A3;simp only[BB,Ir,E2,ML,MO] at Q9;obtain⟨rfl,rfl⟩:=Q9;refine(aF6 w).mono λe w' he=>?_;obtain⟨rfl,hw⟩:=he;have L:∀l:Ah,(l++[DA.CR]).length=l.length+1:=λl=>AH;have HF:∀(U1:Gh) (W:World),Hm U1 (h++[.CR]++[.cells UY]++[.cells [.int .i64 0]]) W->Lm U w U1 W->W.heap.size=w.heap.size+1+1->∀b1 b2,U1.mu (h.length+1)=some b1->U1.mu (h.length+2)=some b2->U1.sz b1=some 13->U1.sz b2=some 1->
    ∃U',Hm U' (h++[.CR]++[.cells UY]++[.cells [.int .i64 0]]++[.cells [.CF (h.length+1) 0 1 13,.CF (h.length+2) 0 1 1]]) (W.alloc (.cells #[.slice (some ⟨b1,0,none⟩) 1 1,.slice (some ⟨b2,0,none⟩) 1 1] 193)).drew/\
     Lm U w U' (W.alloc (.cells #[.slice (some ⟨b1,0,none⟩) 1 1,.slice (some ⟨b2,0,none⟩) 1 1] 193)).drew/\BQ U' (.ptr (some (h.length+3,0))) (.pointer (some ⟨w.heap.size+1+1,0,none⟩))/\(cx.Jl 61=true->∃s c,IZ U' w.heap.size (W.alloc (.cells #[.slice (some ⟨b1,0,none⟩) 1 1,.slice (some ⟨b2,0,none⟩) 1 1] 193)).drew s c (.pointer (some ⟨w.heap.size+1+1,0,none⟩)) (.ptr (some (h.length+3,0)))):=by
   intro U1 W VI ZB K5 b1 b2 f d b z2;obtain⟨Wf,Pb⟩:=GN VI (.cells #[.slice (some ⟨b1,0,none⟩) 1 1,.slice (some ⟨b2,0,none⟩) 1 1] 193 (0,0)) (.cells [.CF (h.length+1) 0 1 13,.CF (h.length+2) 0 1 1]) (some 2)
    (.inl ⟨_,_,_,_,rfl,rfl,.inl rfl,⟨_,_,rfl,⟨b1,1,f,rfl,Ag _,⟨AM,AM⟩,b⟩,_,_,rfl,⟨b2,1,d,rfl,Ag _,⟨AM,AM⟩,z2⟩,rfl⟩,by simp[Value.oneCell'],rfl⟩)
   obtain⟨Ô,sQ⟩:=Wf.Lq ((Below.refl _ _).drew);refine⟨_,Ô,(ZB.trans Pb).trans sQ,⟨W.heap.size,by simp[Gh.B1],by rw[K5]⟩,λe=>by cases e⟩
  rcases hw with rfl|rfl
  .obtain⟨VI,ZB⟩:=GN hi.Õ (.cells IG 154 (0,0)) (.cells UY) (some 13) (.inl ⟨_,_,_,_,rfl,rfl,.inl rfl,m8 _,m9,rfl⟩);obtain⟨Wf,Pb⟩:=GN VI (.cells #[.int .i64 0] 3 (0,0)) (.cells [.int .i64 0]) (some 1) (.inl ⟨_,_,_,_,rfl,rfl,.inl rfl,⟨_,[],rfl,rfl,rfl⟩,by simp[Value.oneCell'],rfl⟩);have ha0:Lm U w U w:=Lm.refl _ _;have:=HF _ _ Wf ((ha0.trans ZB).trans Pb) AH w.heap.size (w.heap.size+1) (by simp[Gh.B1]) (by simp[Gh.B1]) (by simp[Gh.B1]) (by simp[Gh.B1]);exact this
  .obtain⟨VI,ZB⟩:=GN hi (.cells #[.int .i64 0] 3 (0,0)) (.cells [.int .i64 0]) (some 1) (.inl ⟨_,_,_,_,rfl,rfl,.inl rfl,⟨_,[],rfl,rfl,rfl⟩,by simp[Value.oneCell'],rfl⟩);obtain⟨Wf,Pb⟩:=GN VI (.cells IG 154 (0,0)) (.cells UY) (some 13) (.inl ⟨_,_,_,_,rfl,rfl,.inl rfl,m8 _,m9,rfl⟩);have a:((w.alloc (.cells #[.int .i64 0] 3)).alloc (.cells IG 154)).heap[w.heap.size]?=some (.cells #[.int .i64 0] 3 (0,0)):=by rw[EK _ _ AH];exact heap_alloc_new w _
   obtain⟨j,En,VC,LW,SD⟩:=Wf.rel.sB (id:=h.length) (g:=w.heap.size) (cs:=[.int .i64 0]) AH (by simp[Gh.B1]) a (by simp[Gh.B1]) #[.int .i64 0] [.int .i64 0] rfl (.inl rfl) ⟨_,[],rfl,rfl,rfl⟩ (by simp[Value.oneCell']);rw[setRow_self _ _ _ _ _ a] at LW;have i:(h++[DA.cells [Aa.int .i64 0]]++[DA.cells UY]).set h.length .CR++[DA.cells [Aa.int .i64 0]]=h++[.CR]++[.cells UY]++[.cells [.int .i64 0]]:=AH;rw[i] at LW;have:=HF j _ LW.D6 (((Lm.refl U w).trans ZB).trans Pb |>.trans LW.D0) AH (w.heap.size+1) w.heap.size
    (En.mu _ _ (by simp[Gh.B1])) (by simpa using VC) (En.sz _ _ (by simp[Gh.B1])) SD
   exact this
end
end Go.Am
