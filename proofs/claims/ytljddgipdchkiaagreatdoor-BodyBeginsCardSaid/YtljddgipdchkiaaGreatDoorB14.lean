/- Lemmas -/
import Derived.Test.YtljddgipdchkiaaGreatDoorB13
set_option linter.all false
namespace Go.Am
open Go Go.RowKit Go.Shelf
section
variable{U U':Gh}{h:Ah}{w w':World}
def Hk.y_(hi:Hk U h w):Hk U (h++[.CO]) w:=by
 have key:∀{id:Nat} {x:Dw},(h++[Dw.CO])[id]?=some x->x≠ .CO->h[id]?=some x:=λ{id x} hx hd=>by
  rcases AN id h.length with hl|hl
  .rwa [Aj hl] at hx
  .rw[Bl hl] at hx;cases hk:id-h.length with
   |zero=>rw[hk] at hx;cases hx;exact absurd rfl hd
   |succ k=>rw[hk] at hx;simp at hx
 exact⟨hi.Io,λid y Ij hy=>hi.Md id y (key Ij hy) hy,λid cs hc b hb=>hi.cells id cs (key hc AH) b hb,λid es hc b hb=>hi.map id es (key hc AH) b hb,λid b hb=>by have:=hi.mu id b hb;simp;omega,hi.Bt,hi.sz⟩
def za:Proofs.Tryz.prog.follows .mixedOrders=true:=Da
abbrev Iz:Array Value:=#[.int .i64 0,.int .i64 0,.slice none 0 0,.int .i64 0,.int .i64 0,.string ⟨#[]⟩,.slice none 0 0,.string ⟨#[]⟩,.string ⟨#[]⟩,.string ⟨#[]⟩,.bool false,.int .i64 0,.int .i64 0]
def aA8:(Proofs.Tryz.prog.info? 154).map (λi=>(i.zero,i.size,i.bytes))=some (some (.agg Iz),13,168):=Da
def aEy:(Proofs.Tryz.prog.info? 3).map (λi=>(i.zero,i.size,i.bytes))=some (some (.int .i64 0),1,8):=Da
def aA9:madeCells (Value.agg Iz).cells (Int.toNat 1*13)=Iz:=Da
def aEz:madeCells (Value.int .i64 0).cells (Int.toNat 1*1)=#[.int .i64 0]:=Da
def zb(w:World):(Instr.makeSlice 166 (.int .i64 1) (.int .i64 1)).run Proofs.Tryz.prog w= .ok (.slice (some ⟨w.heap.size,0,none⟩) 1 1) (w.alloc (.cells Iz 154)):=by obtain⟨i,hi,h2⟩:=ME.1 aA8;simp only[Ih] at h2;obtain⟨h2,b,a⟩:=h2;have:=run_make (P:=Proofs.Tryz.prog) w 166 154 i _ Proofs.Tryz.underlying166 hi h2 .i64 .i64 1 1 AX AX (by rw[a];decide) AX;rw[b,aA9] at this;exact this
def aBa(w:World):(Instr.makeSlice 84 (.int .i64 1) (.int .i64 1)).run Proofs.Tryz.prog w= .ok (.slice (some ⟨w.heap.size,0,none⟩) 1 1) (w.alloc (.cells #[.int .i64 0] 3)):=by obtain⟨i,hi,h2⟩:=ME.1 aEy;simp only[Ih] at h2;obtain⟨h2,b,a⟩:=h2;have:=run_make (P:=Proofs.Tryz.prog) w 84 3 i _ Proofs.Tryz.underlying84 hi h2 .i64 .i64 1 1 AX AX (by rw[a];decide) AX;rw[b,aEz] at this;exact this
set_option maxHeartbeats 2000000 in
set_option maxRecDepth 100000 in
def aEA(w:World):Calls Proofs.Tryz.prog 61 #[] w λe w'=>e= .returned (.pointer (some ⟨w.heap.size+1+1,0,none⟩))/\
  (w' = (((w.alloc (.cells Iz 154)).alloc (.cells #[.int .i64 0] 3)).alloc (.cells #[.slice (some ⟨w.heap.size, 0, none⟩) 1 1, .slice (some ⟨w.heap.size + 1, 0, none⟩) 1 1] 193)).drew \/
   w' = (((w.alloc (.cells #[.int .i64 0] 3)).alloc (.cells Iz 154)).alloc (.cells #[.slice (some ⟨w.heap.size + 1, 0, none⟩) 1 1, .slice (some ⟨w.heap.size, 0, none⟩) 1 1] 193)).drew) := by
 have mixed:=za;have b:=zb;have a:=aBa;go_enter Proofs.Tryz.func61,Proofs.Tryz.ntmps61
 go_wp2
 go_region_o
 all_goals go_wp2
 all_goals refine bodyPost_ret (results_tmp rfl _ _ _) rfl ?_
 .exact⟨rfl,.inl rfl⟩
 .exact⟨rfl,.inr rfl⟩
abbrev Ur:List Aa:=[.int .i64 0,.int .i64 0,.slnil,.int .i64 0,.int .i64 0,.str [],.slnil,.str [],.str [],.str [],.bool false,.int .i64 0,.int .i64 0]
def lS(U:Gh):Bg U Ur Iz.toList:=⟨_,_,rfl,rfl,_,_,rfl,rfl,_,_,rfl,rfl,_,_,rfl,rfl,_,_,rfl,rfl,_,_,rfl,rfl,_,_,rfl,rfl,_,_,rfl,rfl,_,_,rfl,rfl,_,_,rfl,rfl,_,_,rfl,rfl,_,_,rfl,rfl,_,_,rfl,rfl,rfl⟩
def lT:∀u∈Iz.toList,u.oneCell'=true:=AX
def aBb(n:Nat)(args:List Aa)(r:Aa)(h':Ah)(A0:IT.step (Ca cx) (IT.run (Ca cx) n) (VF args) h=some (.ret,[r],h')):
  (∃fn c,cx.P.funcs[Ez 61]?=some fn/\(fn.name== "runtime.NumGoroutine")=false/\fn.body=some c)/\
  ∀(U:Gh) (w:World) (cargs:Array Value),Hk U h w->(∀g cs,cx.GZ g=some cs->C1 U cs g 0)->Bg U args cargs.toList->
   Calls cx.P (Ez 61) cargs w λe w'=>match e with
    | .returned v=>∃U',Hk U' h' w'/\Ld U w U' w'/\BO U' r v/\(cx.Jh 61=true->∃s c,IU U' w.heap.size w' s c v r)
    |_=>False:=by
 refine⟨⟨_,_,Proofs.Tryz.func61,rfl,rfl⟩,λU w cargs hi hg ha=>?_⟩;cases args with
 |cons _ _=>cases A0
 |nil=>
  have hc:cargs=#[]:=by have:=ha.length;exact F0 (by simpa using this)
  subst hc;have QL:some (DQ.ret,[Aa.ptr (some (h.length+3,0))],h++[.CO]++[.cells Ur]++[.cells [.int .i64 0]]++[.cells [.CE (h.length+1) 0 1 13,.CE (h.length+2) 0 1 1]])=some (.ret,[r],h'):=A0;simp only[Bz,Ih,E1,MB,MD] at QL;obtain⟨rfl,rfl⟩:=QL;refine(aEA w).mono λe w' he=>?_;obtain⟨rfl,hw⟩:=he;have L:∀l:Ah,(l++[Dw.CO]).length=l.length+1:=λl=>AH;have HC:∀(U1:Gh) (W:World),Hk U1 (h++[.CO]++[.cells Ur]++[.cells [.int .i64 0]]) W->Ld U w U1 W->W.heap.size=w.heap.size+1+1->∀b1 b2,U1.mu (h.length+1)=some b1->U1.mu (h.length+2)=some b2->U1.sz b1=some 13->U1.sz b2=some 1->
    ∃U',Hk U' (h++[.CO]++[.cells Ur]++[.cells [.int .i64 0]]++[.cells [.CE (h.length+1) 0 1 13,.CE (h.length+2) 0 1 1]]) (W.alloc (.cells #[.slice (some ⟨b1,0,none⟩) 1 1,.slice (some ⟨b2,0,none⟩) 1 1] 193)).drew/\
     Ld U w U' (W.alloc (.cells #[.slice (some ⟨b1,0,none⟩) 1 1,.slice (some ⟨b2,0,none⟩) 1 1] 193)).drew/\BO U' (.ptr (some (h.length+3,0))) (.pointer (some ⟨w.heap.size+1+1,0,none⟩))/\(cx.Jh 61=true->∃s c,IU U' w.heap.size (W.alloc (.cells #[.slice (some ⟨b1,0,none⟩) 1 1,.slice (some ⟨b2,0,none⟩) 1 1] 193)).drew s c (.pointer (some ⟨w.heap.size+1+1,0,none⟩)) (.ptr (some (h.length+3,0)))):=by
   intro U1 W U8 Za KW b1 b2 f d b z2;obtain⟨VA,OV⟩:=GM U8 (.cells #[.slice (some ⟨b1,0,none⟩) 1 1,.slice (some ⟨b2,0,none⟩) 1 1] 193 (0,0)) (.cells [.CE (h.length+1) 0 1 13,.CE (h.length+2) 0 1 1]) (some 2)
    (.inl ⟨_,_,_,_,rfl,rfl,.inl rfl,⟨_,_,rfl,⟨b1,1,f,rfl,Ag _,⟨AX,AX⟩,b⟩,_,_,rfl,⟨b2,1,d,rfl,Ag _,⟨AX,AX⟩,z2⟩,rfl⟩,by simp[Value.oneCell'],rfl⟩)
   obtain⟨yz,qV⟩:=VA.Li ((Below.refl _ _).drew);refine⟨_,yz,(Za.trans OV).trans qV,⟨W.heap.size,by simp[Gh.B0],by rw[KW]⟩,λe=>by cases e⟩
  rcases hw with rfl|rfl
  .obtain⟨U8,Za⟩:=GM hi.y_ (.cells Iz 154 (0,0)) (.cells Ur) (some 13) (.inl ⟨_,_,_,_,rfl,rfl,.inl rfl,lS _,lT,rfl⟩);obtain⟨VA,OV⟩:=GM U8 (.cells #[.int .i64 0] 3 (0,0)) (.cells [.int .i64 0]) (some 1) (.inl ⟨_,_,_,_,rfl,rfl,.inl rfl,⟨_,[],rfl,rfl,rfl⟩,by simp[Value.oneCell'],rfl⟩);have ha0:Ld U w U w:=Ld.refl _ _;have:=HC _ _ VA ((ha0.trans Za).trans OV) AH w.heap.size (w.heap.size+1) (by simp[Gh.B0]) (by simp[Gh.B0]) (by simp[Gh.B0]) (by simp[Gh.B0]);exact this
  .obtain⟨U8,Za⟩:=GM hi (.cells #[.int .i64 0] 3 (0,0)) (.cells [.int .i64 0]) (some 1) (.inl ⟨_,_,_,_,rfl,rfl,.inl rfl,⟨_,[],rfl,rfl,rfl⟩,by simp[Value.oneCell'],rfl⟩);obtain⟨VA,OV⟩:=GM U8 (.cells Iz 154 (0,0)) (.cells Ur) (some 13) (.inl ⟨_,_,_,_,rfl,rfl,.inl rfl,lS _,lT,rfl⟩);have a:((w.alloc (.cells #[.int .i64 0] 3)).alloc (.cells Iz 154)).heap[w.heap.size]?=some (.cells #[.int .i64 0] 3 (0,0)):=by rw[EH _ _ AH];exact heap_alloc_new w _
   obtain⟨j,Ej,UX,LQ,Sd⟩:=VA.rel.qG (id:=h.length) (g:=w.heap.size) (cs:=[.int .i64 0]) AH (by simp[Gh.B0]) a (by simp[Gh.B0]) #[.int .i64 0] [.int .i64 0] rfl (.inl rfl) ⟨_,[],rfl,rfl,rfl⟩ (by simp[Value.oneCell']);rw[setRow_self _ _ _ _ _ a] at LQ;have i:(h++[Dw.cells [Aa.int .i64 0]]++[Dw.cells Ur]).set h.length .CO++[Dw.cells [Aa.int .i64 0]]=h++[.CO]++[.cells Ur]++[.cells [.int .i64 0]]:=AH;rw[i] at LQ;have:=HC j _ LQ.D3 (((Ld.refl U w).trans Za).trans OV |>.trans LQ.DW) AH (w.heap.size+1) w.heap.size
    (Ej.mu _ _ (by simp[Gh.B0])) (by simpa using UX) (Ej.sz _ _ (by simp[Gh.B0])) Sd
   exact this
end
end Go.Am
