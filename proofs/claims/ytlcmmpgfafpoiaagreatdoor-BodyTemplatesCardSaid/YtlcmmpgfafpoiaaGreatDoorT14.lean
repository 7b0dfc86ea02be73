/- Lemmas -/
import Derived.Test.YtlcmmpgfafpoiaaGreatDoorT13
set_option linter.all false
namespace Go.Am
open Go Go.RowKit Go.Shelf
section
variable{U U':Gh}{h:Ah}{w w':World}
def Hn.à(hi:Hn U h w):Hn U (h++[.CF]) w:=by
 have key:∀{id:Nat} {x:Du},(h++[Du.CF])[id]?=some x->x≠ .CF->h[id]?=some x:=λ{id x} hx hd=>by
  rcases AQ id h.length with hl|hl
  .rwa [Ai hl] at hx
  .rw[Bd hl] at hx;cases hk:id-h.length with
   |zero=>rw[hk] at hx;cases hx;exact absurd rfl hd
   |succ k=>rw[hk] at hx;simp at hx
 exact⟨hi.It,λid y Ih hy=>hi.Mm id y (key Ih hy) hy,λid cs hc b hb=>hi.cells id cs (key hc AH) b hb,λid es hc b hb=>hi.map id es (key hc AH) b hb,λid b hb=>by have:=hi.mu id b hb;simp;omega,hi.Bt,hi.sz⟩
def á:Proofs.Tryz.prog.follows .mixedOrders=true:=Dg
abbrev ID:Array Value:=#[.int .i64 0,.int .i64 0,.slice none 0 0,.int .i64 0,.int .i64 0,.string ⟨#[]⟩,.slice none 0 0,.string ⟨#[]⟩,.string ⟨#[]⟩,.string ⟨#[]⟩,.bool false,.int .i64 0,.int .i64 0]
def aCn:(Proofs.Tryz.prog.info? 154).map (λi=>(i.zero,i.size,i.bytes))=some (some (.agg ID),13,168):=Dg
def aFV:(Proofs.Tryz.prog.info? 3).map (λi=>(i.zero,i.size,i.bytes))=some (some (.int .i64 0),1,8):=Dg
def aCo:madeCells (Value.agg ID).cells (Int.toNat 1*13)=ID:=Dg
def aFW:madeCells (Value.int .i64 0).cells (Int.toNat 1*1)=#[.int .i64 0]:=Dg
def â(w:World):(Instr.makeSlice 166 (.int .i64 1) (.int .i64 1)).run Proofs.Tryz.prog w= .ok (.slice (some ⟨w.heap.size,0,none⟩) 1 1) (w.alloc (.cells ID 154)):=by obtain⟨i,hi,h2⟩:=MM.1 aCn;simp only[Io] at h2;obtain⟨h2,b,a⟩:=h2;have:=run_make (P:=Proofs.Tryz.prog) w 166 154 i _ Proofs.Tryz.underlying166 hi h2 .i64 .i64 1 1 AU AU (by rw[a];decide) AU;rw[b,aCo] at this;exact this
def aCp(w:World):(Instr.makeSlice 84 (.int .i64 1) (.int .i64 1)).run Proofs.Tryz.prog w= .ok (.slice (some ⟨w.heap.size,0,none⟩) 1 1) (w.alloc (.cells #[.int .i64 0] 3)):=by obtain⟨i,hi,h2⟩:=MM.1 aFV;simp only[Io] at h2;obtain⟨h2,b,a⟩:=h2;have:=run_make (P:=Proofs.Tryz.prog) w 84 3 i _ Proofs.Tryz.underlying84 hi h2 .i64 .i64 1 1 AU AU (by rw[a];decide) AU;rw[b,aFW] at this;exact this
set_option maxHeartbeats 2000000 in
set_option maxRecDepth 100000 in
def aFX(w:World):Calls Proofs.Tryz.prog 61 #[] w λe w'=>e= .returned (.pointer (some ⟨w.heap.size+1+1,0,none⟩))/\
  (w' = (((w.alloc (.cells ID 154)).alloc (.cells #[.int .i64 0] 3)).alloc (.cells #[.slice (some ⟨w.heap.size, 0, none⟩) 1 1, .slice (some ⟨w.heap.size + 1, 0, none⟩) 1 1] 193)).drew \/
   w' = (((w.alloc (.cells #[.int .i64 0] 3)).alloc (.cells ID 154)).alloc (.cells #[.slice (some ⟨w.heap.size + 1, 0, none⟩) 1 1, .slice (some ⟨w.heap.size, 0, none⟩) 1 1] 193)).drew) := by
 have mixed:=á;have b:=â;have a:=aCp;go_enter Proofs.Tryz.func61,Proofs.Tryz.ntmps61
 go_wp2
 go_region_o
 all_goals go_wp2
 all_goals refine bodyPost_ret (results_tmp rfl _ _ _) rfl ?_
 .exact⟨rfl,.inl rfl⟩
 .exact⟨rfl,.inr rfl⟩
abbrev UO:List Aa:=[.int .i64 0,.int .i64 0,.slnil,.int .i64 0,.int .i64 0,.str [],.slnil,.str [],.str [],.str [],.bool false,.int .i64 0,.int .i64 0]
def m7(U:Gh):Bj U UO ID.toList:=⟨_,_,rfl,rfl,_,_,rfl,rfl,_,_,rfl,rfl,_,_,rfl,rfl,_,_,rfl,rfl,_,_,rfl,rfl,_,_,rfl,rfl,_,_,rfl,rfl,_,_,rfl,rfl,_,_,rfl,rfl,_,_,rfl,rfl,_,_,rfl,rfl,_,_,rfl,rfl,rfl⟩
def m8:∀u∈ID.toList,u.oneCell'=true:=AU
def aCq(n:Nat)(args:List Aa)(r:Aa)(h':Ah)(A4:IT.step (B9 cx) (IT.run (B9 cx) n) (V9 args) h=some (.ret,[r],h')):
  (∃fn c,cx.P.funcs[EF 61]?=some fn/\(fn.name== "runtime.NumGoroutine")=false/\fn.body=some c)/\
  ∀(U:Gh) (w:World) (cargs:Array Value),Hn U h w->(∀g cs,cx.Hb g=some cs->C6 U cs g 0)->Bj U args cargs.toList->
   Calls cx.P (EF 61) cargs w λe w'=>match e with
    | .returned v=>∃U',Hn U' h' w'/\Lq U w U' w'/\BR U' r v/\(cx.Jk 61=true->∃s c,IY U' w.heap.size w' s c v r)
    |_=>False:=by
 refine⟨⟨_,_,Proofs.Tryz.func61,rfl,rfl⟩,λU w cargs hi hg ha=>?_⟩;cases args with
 |cons _ _=>cases A4
 |nil=>
  have hc:cargs=#[]:=by have:=ha.length;exact Gb (by simpa using this)
  subst hc;have QY:some (DX.ret,[Aa.ptr (some (h.length+3,0))],h++[.CF]++[.cells UO]++[.cells [.int .i64 0]]++[.cells [.Cs (h.length+1) 0 1 13,.Cs (h.length+2) 0 1 1]])=some (.ret,[r],h'):=A4;simp only[BD,Io,E5,MJ,ML] at QY;obtain⟨rfl,rfl⟩:=QY;refine(aFX w).mono λe w' he=>?_;obtain⟨rfl,hw⟩:=he;have L:∀l:Ah,(l++[Du.CF]).length=l.length+1:=λl=>AH;have HG:∀(U1:Gh) (W:World),Hn U1 (h++[.CF]++[.cells UO]++[.cells [.int .i64 0]]) W->Lq U w U1 W->W.heap.size=w.heap.size+1+1->∀b1 b2,U1.mu (h.length+1)=some b1->U1.mu (h.length+2)=some b2->U1.sz b1=some 13->U1.sz b2=some 1->
    ∃U',Hn U' (h++[.CF]++[.cells UO]++[.cells [.int .i64 0]]++[.cells [.Cs (h.length+1) 0 1 13,.Cs (h.length+2) 0 1 1]]) (W.alloc (.cells #[.slice (some ⟨b1,0,none⟩) 1 1,.slice (some ⟨b2,0,none⟩) 1 1] 193)).drew/\
     Lq U w U' (W.alloc (.cells #[.slice (some ⟨b1,0,none⟩) 1 1,.slice (some ⟨b2,0,none⟩) 1 1] 193)).drew/\BR U' (.ptr (some (h.length+3,0))) (.pointer (some ⟨w.heap.size+1+1,0,none⟩))/\(cx.Jk 61=true->∃s c,IY U' w.heap.size (W.alloc (.cells #[.slice (some ⟨b1,0,none⟩) 1 1,.slice (some ⟨b2,0,none⟩) 1 1] 193)).drew s c (.pointer (some ⟨w.heap.size+1+1,0,none⟩)) (.ptr (some (h.length+3,0)))):=by
   intro U1 W VB ZE Lb b1 b2 f d b z2;obtain⟨V0,O8⟩:=GQ VB (.cells #[.slice (some ⟨b1,0,none⟩) 1 1,.slice (some ⟨b2,0,none⟩) 1 1] 193 (0,0)) (.cells [.Cs (h.length+1) 0 1 13,.Cs (h.length+2) 0 1 1]) (some 2)
    (.inl ⟨_,_,_,_,rfl,rfl,.inl rfl,⟨_,_,rfl,⟨b1,1,f,rfl,Ag _,⟨AU,AU⟩,b⟩,_,_,rfl,⟨b2,1,d,rfl,Ag _,⟨AU,AU⟩,z2⟩,rfl⟩,by simp[Value.oneCell'],rfl⟩)
   obtain⟨ß,sH⟩:=V0.Lu ((Below.refl _ _).drew);refine⟨_,ß,(ZE.trans O8).trans sH,⟨W.heap.size,by simp[Gh.B0],by rw[Lb]⟩,λe=>by cases e⟩
  rcases hw with rfl|rfl
  .obtain⟨VB,ZE⟩:=GQ hi.à (.cells ID 154 (0,0)) (.cells UO) (some 13) (.inl ⟨_,_,_,_,rfl,rfl,.inl rfl,m7 _,m8,rfl⟩);obtain⟨V0,O8⟩:=GQ VB (.cells #[.int .i64 0] 3 (0,0)) (.cells [.int .i64 0]) (some 1) (.inl ⟨_,_,_,_,rfl,rfl,.inl rfl,⟨_,[],rfl,rfl,rfl⟩,by simp[Value.oneCell'],rfl⟩);have ha0:Lq U w U w:=Lq.refl _ _;have:=HG _ _ V0 ((ha0.trans ZE).trans O8) AH w.heap.size (w.heap.size+1) (by simp[Gh.B0]) (by simp[Gh.B0]) (by simp[Gh.B0]) (by simp[Gh.B0]);exact this
  .obtain⟨VB,ZE⟩:=GQ hi (.cells #[.int .i64 0] 3 (0,0)) (.cells [.int .i64 0]) (some 1) (.inl ⟨_,_,_,_,rfl,rfl,.inl rfl,⟨_,[],rfl,rfl,rfl⟩,by simp[Value.oneCell'],rfl⟩);obtain⟨V0,O8⟩:=GQ VB (.cells ID 154 (0,0)) (.cells UO) (some 13) (.inl ⟨_,_,_,_,rfl,rfl,.inl rfl,m7 _,m8,rfl⟩);have a:((w.alloc (.cells #[.int .i64 0] 3)).alloc (.cells ID 154)).heap[w.heap.size]?=some (.cells #[.int .i64 0] 3 (0,0)):=by rw[EL _ _ AH];exact heap_alloc_new w _
   obtain⟨j,Eo,Vv,L0,Sq⟩:=V0.rel.rQ (id:=h.length) (g:=w.heap.size) (cs:=[.int .i64 0]) AH (by simp[Gh.B0]) a (by simp[Gh.B0]) #[.int .i64 0] [.int .i64 0] rfl (.inl rfl) ⟨_,[],rfl,rfl,rfl⟩ (by simp[Value.oneCell']);rw[setRow_self _ _ _ _ _ a] at L0;have i:(h++[Du.cells [Aa.int .i64 0]]++[Du.cells UO]).set h.length .CF++[Du.cells [Aa.int .i64 0]]=h++[.CF]++[.cells UO]++[.cells [.int .i64 0]]:=AH;rw[i] at L0;have:=HG j _ L0.D8 (((Lq.refl U w).trans ZE).trans O8 |>.trans L0.D0) AH (w.heap.size+1) w.heap.size
    (Eo.mu _ _ (by simp[Gh.B0])) (by simpa using Vv) (Eo.sz _ _ (by simp[Gh.B0])) Sq
   exact this
end
end Go.Am
