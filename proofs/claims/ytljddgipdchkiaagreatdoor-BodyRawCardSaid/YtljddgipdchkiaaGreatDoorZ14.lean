/- Lemmas -/
import Derived.Test.YtljddgipdchkiaaGreatDoorZ13
set_option linter.all false
namespace Go.Am
open Go Go.RowKit Go.Shelf
section
variable{U U':Gh}{h:Ah}{w w':World}
def Hj.tw(hi:Hj U h w):Hj U (h++[.CT]) w:=by
 have key:∀{id:Nat} {x:Dx},(h++[Dx.CT])[id]?=some x->x≠ .CT->h[id]?=some x:=λ{id x} hx hd=>by
  rcases AO id h.length with hl|hl
  .rwa [Aj hl] at hx
  .rw[Bm hl] at hx;cases hk:id-h.length with
   |zero=>rw[hk] at hx;cases hx;exact absurd rfl hd
   |succ k=>rw[hk] at hx;simp at hx
 exact⟨hi.Io,λid y Ik hy=>hi.L8 id y (key Ik hy) hy,λid cs hc b hb=>hi.cells id cs (key hc AK) b hb,λid es hc b hb=>hi.map id es (key hc AK) b hb,λid b hb=>by have:=hi.mu id b hb;simp;omega,hi.Bw,hi.sz⟩
def tz:Proofs.Tryz.prog.follows .mixedOrders=true:=AH
abbrev IA:Array Value:=#[.int .i64 0,.int .i64 0,.slice none 0 0,.int .i64 0,.int .i64 0,.string ⟨#[]⟩,.slice none 0 0,.string ⟨#[]⟩,.string ⟨#[]⟩,.string ⟨#[]⟩,.bool false,.int .i64 0,.int .i64 0]
def aAu:(Proofs.Tryz.prog.info? 154).map (λi=>(i.zero,i.size,i.bytes))=some (some (.agg IA),13,168):=AH
def aFO:(Proofs.Tryz.prog.info? 3).map (λi=>(i.zero,i.size,i.bytes))=some (some (.int .i64 0),1,8):=AH
def aAv:madeCells (Value.agg IA).cells (Int.toNat 1*13)=IA:=AH
def aFP:madeCells (Value.int .i64 0).cells (Int.toNat 1*1)=#[.int .i64 0]:=AH
def t_(w:World):(Instr.makeSlice 166 (.int .i64 1) (.int .i64 1)).run Proofs.Tryz.prog w= .ok (.slice (some ⟨w.heap.size,0,none⟩) 1 1) (w.alloc (.cells IA 154)):=by obtain⟨i,hi,h2⟩:=MA.1 aAu;simp only[Ii] at h2;obtain⟨h2,b,a⟩:=h2;have:=run_make (P:=Proofs.Tryz.prog) w 166 154 i _ Proofs.Tryz.underlying166 hi h2 .i64 .i64 1 1 A5 A5 (by rw[a];decide) A5;rw[b,aAv] at this;exact this
def aAw(w:World):(Instr.makeSlice 84 (.int .i64 1) (.int .i64 1)).run Proofs.Tryz.prog w= .ok (.slice (some ⟨w.heap.size,0,none⟩) 1 1) (w.alloc (.cells #[.int .i64 0] 3)):=by obtain⟨i,hi,h2⟩:=MA.1 aFO;simp only[Ii] at h2;obtain⟨h2,b,a⟩:=h2;have:=run_make (P:=Proofs.Tryz.prog) w 84 3 i _ Proofs.Tryz.underlying84 hi h2 .i64 .i64 1 1 A5 A5 (by rw[a];decide) A5;rw[b,aFP] at this;exact this
set_option maxHeartbeats 2000000 in
set_option maxRecDepth 100000 in
def aFQ(w:World):Calls Proofs.Tryz.prog 61 #[] w λe w'=>e= .returned (.pointer (some ⟨w.heap.size+1+1,0,none⟩))/\
  (w' = (((w.alloc (.cells IA 154)).alloc (.cells #[.int .i64 0] 3)).alloc (.cells #[.slice (some ⟨w.heap.size, 0, none⟩) 1 1, .slice (some ⟨w.heap.size + 1, 0, none⟩) 1 1] 193)).drew \/
   w' = (((w.alloc (.cells #[.int .i64 0] 3)).alloc (.cells IA 154)).alloc (.cells #[.slice (some ⟨w.heap.size + 1, 0, none⟩) 1 1, .slice (some ⟨w.heap.size, 0, none⟩) 1 1] 193)).drew) := by
 have mixed:=tz;have b:=t_;have a:=aAw;go_enter Proofs.Tryz.func61,Proofs.Tryz.ntmps61
 go_wp2
 go_region_o
 all_goals go_wp2
 all_goals refine bodyPost_ret (results_tmp rfl _ _ _) rfl ?_
 .exact⟨rfl,.inl rfl⟩
 .exact⟨rfl,.inr rfl⟩
abbrev T4:List Aa:=[.int .i64 0,.int .i64 0,.slnil,.int .i64 0,.int .i64 0,.str [],.slnil,.str [],.str [],.str [],.bool false,.int .i64 0,.int .i64 0]
def fL(U:Gh):Bi U T4 IA.toList:=⟨_,_,rfl,rfl,_,_,rfl,rfl,_,_,rfl,rfl,_,_,rfl,rfl,_,_,rfl,rfl,_,_,rfl,rfl,_,_,rfl,rfl,_,_,rfl,rfl,_,_,rfl,rfl,_,_,rfl,rfl,_,_,rfl,rfl,_,_,rfl,rfl,_,_,rfl,rfl,rfl⟩
def fM:∀u∈IA.toList,u.oneCell'=true:=A5
def aAx(n:Nat)(args:List Aa)(r:Aa)(h':Ah)(A3:IT.step (Cd cx) (IT.run (Cd cx) n) (Vq args) h=some (.ret,[r],h')):
  (∃fn c,cx.P.funcs[EE 61]?=some fn/\(fn.name== "runtime.NumGoroutine")=false/\fn.body=some c)/\
  ∀(U:Gh) (w:World) (cargs:Array Value),Hj U h w->(∀g cs,cx.GY g=some cs->C4 U cs g 0)->Bi U args cargs.toList->
   Calls cx.P (EE 61) cargs w λe w'=>match e with
    | .returned v=>∃U',Hj U' h' w'/\K6 U w U' w'/\BU U' r v/\(cx.Jb 61=true->∃s c,IQ U' w.heap.size w' s c v r)
    |_=>False:=by
 refine⟨⟨_,_,Proofs.Tryz.func61,rfl,rfl⟩,λU w cargs hi hg ha=>?_⟩;cases args with
 |cons _ _=>cases A3
 |nil=>
  have hc:cargs=#[]:=by have:=ha.length;exact F7 (by simpa using this)
  subst hc;have Qt:some (Fp.ret,[Aa.ptr (some (h.length+3,0))],h++[.CT]++[.cells T4]++[.cells [.int .i64 0]]++[.cells [.CD (h.length+1) 0 1 13,.CD (h.length+2) 0 1 1]])=some (.ret,[r],h'):=A3;simp only[BE,Ii,E4,Mx,Mz] at Qt;obtain⟨rfl,rfl⟩:=Qt;refine(aFQ w).mono λe w' he=>?_;obtain⟨rfl,hw⟩:=he;have L:∀l:Ah,(l++[Dx.CT]).length=l.length+1:=λl=>AK;have HC:∀(U1:Gh) (W:World),Hj U1 (h++[.CT]++[.cells T4]++[.cells [.int .i64 0]]) W->K6 U w U1 W->W.heap.size=w.heap.size+1+1->∀b1 b2,U1.mu (h.length+1)=some b1->U1.mu (h.length+2)=some b2->U1.sz b1=some 13->U1.sz b2=some 1->
    ∃U',Hj U' (h++[.CT]++[.cells T4]++[.cells [.int .i64 0]]++[.cells [.CD (h.length+1) 0 1 13,.CD (h.length+2) 0 1 1]]) (W.alloc (.cells #[.slice (some ⟨b1,0,none⟩) 1 1,.slice (some ⟨b2,0,none⟩) 1 1] 193)).drew/\
     K6 U w U' (W.alloc (.cells #[.slice (some ⟨b1,0,none⟩) 1 1,.slice (some ⟨b2,0,none⟩) 1 1] 193)).drew/\BU U' (.ptr (some (h.length+3,0))) (.pointer (some ⟨w.heap.size+1+1,0,none⟩))/\(cx.Jb 61=true->∃s c,IQ U' w.heap.size (W.alloc (.cells #[.slice (some ⟨b1,0,none⟩) 1 1,.slice (some ⟨b2,0,none⟩) 1 1] 193)).drew s c (.pointer (some ⟨w.heap.size+1+1,0,none⟩)) (.ptr (some (h.length+3,0)))):=by
   intro U1 W UM Yn KR b1 b2 f d b z2;obtain⟨Vl,OP⟩:=GM UM (.cells #[.slice (some ⟨b1,0,none⟩) 1 1,.slice (some ⟨b2,0,none⟩) 1 1] 193 (0,0)) (.cells [.CD (h.length+1) 0 1 13,.CD (h.length+2) 0 1 1]) (some 2)
    (.inl ⟨_,_,_,_,rfl,rfl,.inl rfl,⟨_,_,rfl,⟨b1,1,f,rfl,Ag _,⟨A5,A5⟩,b⟩,_,_,rfl,⟨b2,1,d,rfl,Ag _,⟨A5,A5⟩,z2⟩,rfl⟩,by simp[Value.oneCell'],rfl⟩)
   obtain⟨tv,lN⟩:=Vl.Lb ((Below.refl _ _).drew);refine⟨_,tv,(Yn.trans OP).trans lN,⟨W.heap.size,by simp[Gh.B3],by rw[KR]⟩,λe=>by cases e⟩
  rcases hw with rfl|rfl
  .obtain⟨UM,Yn⟩:=GM hi.tw (.cells IA 154 (0,0)) (.cells T4) (some 13) (.inl ⟨_,_,_,_,rfl,rfl,.inl rfl,fL _,fM,rfl⟩);obtain⟨Vl,OP⟩:=GM UM (.cells #[.int .i64 0] 3 (0,0)) (.cells [.int .i64 0]) (some 1) (.inl ⟨_,_,_,_,rfl,rfl,.inl rfl,⟨_,[],rfl,rfl,rfl⟩,by simp[Value.oneCell'],rfl⟩);have ha0:K6 U w U w:=K6.refl _ _;have:=HC _ _ Vl ((ha0.trans Yn).trans OP) AK w.heap.size (w.heap.size+1) (by simp[Gh.B3]) (by simp[Gh.B3]) (by simp[Gh.B3]) (by simp[Gh.B3]);exact this
  .obtain⟨UM,Yn⟩:=GM hi (.cells #[.int .i64 0] 3 (0,0)) (.cells [.int .i64 0]) (some 1) (.inl ⟨_,_,_,_,rfl,rfl,.inl rfl,⟨_,[],rfl,rfl,rfl⟩,by simp[Value.oneCell'],rfl⟩);obtain⟨Vl,OP⟩:=GM UM (.cells IA 154 (0,0)) (.cells T4) (some 13) (.inl ⟨_,_,_,_,rfl,rfl,.inl rfl,fL _,fM,rfl⟩);have a:((w.alloc (.cells #[.int .i64 0] 3)).alloc (.cells IA 154)).heap[w.heap.size]?=some (.cells #[.int .i64 0] 3 (0,0)):=by rw[EL _ _ AK];exact heap_alloc_new w _
   obtain⟨j,En,UG,LL,RL⟩:=Vl.rel.kY (id:=h.length) (g:=w.heap.size) (cs:=[.int .i64 0]) AK (by simp[Gh.B3]) a (by simp[Gh.B3]) #[.int .i64 0] [.int .i64 0] rfl (.inl rfl) ⟨_,[],rfl,rfl,rfl⟩ (by simp[Value.oneCell']);rw[setRow_self _ _ _ _ _ a] at LL;have i:(h++[Dx.cells [Aa.int .i64 0]]++[Dx.cells T4]).set h.length .CT++[Dx.cells [Aa.int .i64 0]]=h++[.CT]++[.cells T4]++[.cells [.int .i64 0]]:=AK;rw[i] at LL;have:=HC j _ LL.D4 (((K6.refl U w).trans Yn).trans OP |>.trans LL.DX) AK (w.heap.size+1) w.heap.size
    (En.mu _ _ (by simp[Gh.B3])) (by simpa using UG) (En.sz _ _ (by simp[Gh.B3])) RL
   exact this
end
end Go.Am
