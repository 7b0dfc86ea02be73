/- Lemmas -/
import Derived.Test.YtkaolmlpcamojaaGreatDoorH13
set_option linter.all false
namespace Go.Am
open Go Go.RowKit Go.Shelf
section
variable{U U':Gh}{h:Ai}{w w':World}
def Hv.Ē(hi:Hv U h w):Hv U (h++[.CR]) w:=by
 have key:∀{id:Nat} {x:Dx},(h++[Dx.CR])[id]?=some x->x≠ .CR->h[id]?=some x:=λ{id x} hx hd=>by
  rcases AR id h.length with hl|hl
  .rwa [Ak hl] at hx
  .rw[Bk hl] at hx;cases hk:id-h.length with
   |zero=>rw[hk] at hx;cases hx;exact absurd rfl hd
   |succ k=>rw[hk] at hx;simp at hx
 exact⟨hi.IF,λid y Im hy=>hi.MC id y (key Im hy) hy,λid cs hc b hb=>hi.cells id cs (key hc AH) b hb,λid es hc b hb=>hi.map id es (key hc AH) b hb,λid b hb=>by have:=hi.mu id b hb;simp;omega,hi.Bs,hi.sz⟩
def ē:Proofs.Tryz.prog.follows .mixedOrders=true:=Dg
abbrev IQ:Array Value:=#[.int .i64 0,.int .i64 0,.slice none 0 0,.int .i64 0,.int .i64 0,.string ⟨#[]⟩,.slice none 0 0,.string ⟨#[]⟩,.string ⟨#[]⟩,.string ⟨#[]⟩,.bool false,.int .i64 0,.int .i64 0]
def aDf:(Proofs.Tryz.prog.info? 154).map (λi=>(i.zero,i.size,i.bytes))=some (some (.agg IQ),13,168):=Dg
def aGO:(Proofs.Tryz.prog.info? 3).map (λi=>(i.zero,i.size,i.bytes))=some (some (.int .i64 0),1,8):=Dg
def aDg:madeCells (Value.agg IQ).cells (Int.toNat 1*13)=IQ:=Dg
def aGP:madeCells (Value.int .i64 0).cells (Int.toNat 1*1)=#[.int .i64 0]:=Dg
def Ĕ(w:World):(Instr.makeSlice 166 (.int .i64 1) (.int .i64 1)).run Proofs.Tryz.prog w= .ok (.slice (some ⟨w.heap.size,0,none⟩) 1 1) (w.alloc (.cells IQ 154)):=by obtain⟨i,hi,h2⟩:=M6.1 aDf;simp only[IA] at h2;obtain⟨h2,b,a⟩:=h2;have:=run_make (P:=Proofs.Tryz.prog) w 166 154 i _ Proofs.Tryz.underlying166 hi h2 .i64 .i64 1 1 AP AP (by rw[a];decide) AP;rw[b,aDg] at this;exact this
def aDh(w:World):(Instr.makeSlice 84 (.int .i64 1) (.int .i64 1)).run Proofs.Tryz.prog w= .ok (.slice (some ⟨w.heap.size,0,none⟩) 1 1) (w.alloc (.cells #[.int .i64 0] 3)):=by obtain⟨i,hi,h2⟩:=M6.1 aGO;simp only[IA] at h2;obtain⟨h2,b,a⟩:=h2;have:=run_make (P:=Proofs.Tryz.prog) w 84 3 i _ Proofs.Tryz.underlying84 hi h2 .i64 .i64 1 1 AP AP (by rw[a];decide) AP;rw[b,aGP] at this;exact this
set_option maxHeartbeats 2000000 in
set_option maxRecDepth 100000 in
def aGQ(w:World):Calls Proofs.Tryz.prog 61 #[] w λe w'=>e= .returned (.pointer (some ⟨w.heap.size+1+1,0,none⟩))/\
  (w' = (((w.alloc (.cells IQ 154)).alloc (.cells #[.int .i64 0] 3)).alloc (.cells #[.slice (some ⟨w.heap.size, 0, none⟩) 1 1, .slice (some ⟨w.heap.size + 1, 0, none⟩) 1 1] 193)).drew \/
   w' = (((w.alloc (.cells #[.int .i64 0] 3)).alloc (.cells IQ 154)).alloc (.cells #[.slice (some ⟨w.heap.size + 1, 0, none⟩) 1 1, .slice (some ⟨w.heap.size, 0, none⟩) 1 1] 193)).drew) := by
 have mixed:=ē;have b:=Ĕ;have a:=aDh;go_enter Proofs.Tryz.func61,Proofs.Tryz.ntmps61
 go_wp2
 go_region_o
 all_goals go_wp2
 all_goals refine bodyPost_ret (results_tmp rfl _ _ _) rfl ?_
 .exact⟨rfl,.inl rfl⟩
 .exact⟨rfl,.inr rfl⟩
abbrev Vq:List Aa:=[.int .i64 0,.int .i64 0,.slnil,.int .i64 0,.int .i64 0,.str [],.slnil,.str [],.str [],.str [],.bool false,.int .i64 0,.int .i64 0]
def oW(U:Gh):Bl U Vq IQ.toList:=⟨_,_,rfl,rfl,_,_,rfl,rfl,_,_,rfl,rfl,_,_,rfl,rfl,_,_,rfl,rfl,_,_,rfl,rfl,_,_,rfl,rfl,_,_,rfl,rfl,_,_,rfl,rfl,_,_,rfl,rfl,_,_,rfl,rfl,_,_,rfl,rfl,_,_,rfl,rfl,rfl⟩
def oX:∀u∈IQ.toList,u.oneCell'=true:=AP
def aDi(n:Nat)(args:List Aa)(r:Aa)(h':Ai)(A3:IT.step (Ca cx) (IT.run (Ca cx) n) (WL args) h=some (.ret,[r],h')):
  (∃fn c,cx.P.funcs[EH 61]?=some fn/\(fn.name== "runtime.NumGoroutine")=false/\fn.body=some c)/\
  ∀(U:Gh) (w:World) (cargs:Array Value),Hv U h w->(∀g cs,cx.Hk g=some cs->C8 U cs g 0)->Bl U args cargs.toList->
   Calls cx.P (EH 61) cargs w λe w'=>match e with
    | .returned v=>∃U',Hv U' h' w'/\LI U w U' w'/\BQ U' r v/\(cx.Jq 61=true->∃s c,I6 U' w.heap.size w' s c v r)
    |_=>False:=by
 refine⟨⟨_,_,Proofs.Tryz.func61,rfl,rfl⟩,λU w cargs hi hg ha=>?_⟩;cases args with
 |cons _ _=>cases A3
 |nil=>
  have hc:cargs=#[]:=by have:=ha.length;exact Gf (by simpa using this)
  subst hc;have Rn:some (DU.ret,[Aa.ptr (some (h.length+3,0))],h++[.CR]++[.cells Vq]++[.cells [.int .i64 0]]++[.cells [.CE (h.length+1) 0 1 13,.CE (h.length+2) 0 1 1]])=some (.ret,[r],h'):=A3;simp only[BC,IA,E5,M3,M5] at Rn;obtain⟨rfl,rfl⟩:=Rn;refine(aGQ w).mono λe w' he=>?_;obtain⟨rfl,hw⟩:=he;have L:∀l:Ai,(l++[Dx.CR]).length=l.length+1:=λl=>AH;have HN:∀(U1:Gh) (W:World),Hv U1 (h++[.CR]++[.cells Vq]++[.cells [.int .i64 0]]) W->LI U w U1 W->W.heap.size=w.heap.size+1+1->∀b1 b2,U1.mu (h.length+1)=some b1->U1.mu (h.length+2)=some b2->U1.sz b1=some 13->U1.sz b2=some 1->
    ∃U',Hv U' (h++[.CR]++[.cells Vq]++[.cells [.int .i64 0]]++[.cells [.CE (h.length+1) 0 1 13,.CE (h.length+2) 0 1 1]]) (W.alloc (.cells #[.slice (some ⟨b1,0,none⟩) 1 1,.slice (some ⟨b2,0,none⟩) 1 1] 193)).drew/\
     LI U w U' (W.alloc (.cells #[.slice (some ⟨b1,0,none⟩) 1 1,.slice (some ⟨b2,0,none⟩) 1 1] 193)).drew/\BQ U' (.ptr (some (h.length+3,0))) (.pointer (some ⟨w.heap.size+1+1,0,none⟩))/\(cx.Jq 61=true->∃s c,I6 U' w.heap.size (W.alloc (.cells #[.slice (some ⟨b1,0,none⟩) 1 1,.slice (some ⟨b2,0,none⟩) 1 1] 193)).drew s c (.pointer (some ⟨w.heap.size+1+1,0,none⟩)) (.ptr (some (h.length+3,0)))):=by
   intro U1 W Wc Z9 Ls b1 b2 f d b z2;obtain⟨WG,Pz⟩:=GX Wc (.cells #[.slice (some ⟨b1,0,none⟩) 1 1,.slice (some ⟨b2,0,none⟩) 1 1] 193 (0,0)) (.cells [.CE (h.length+1) 0 1 13,.CE (h.length+2) 0 1 1]) (some 2)
    (.inl ⟨_,_,_,_,rfl,rfl,.inl rfl,⟨_,_,rfl,⟨b1,1,f,rfl,Ag _,⟨AP,AP⟩,b⟩,_,_,rfl,⟨b2,1,d,rfl,Ag _,⟨AP,AP⟩,z2⟩,rfl⟩,by simp[Value.oneCell'],rfl⟩)
   obtain⟨đ,uK⟩:=WG.LM ((Below.refl _ _).drew);refine⟨_,đ,(Z9.trans Pz).trans uK,⟨W.heap.size,by simp[Gh.B2],by rw[Ls]⟩,λe=>by cases e⟩
  rcases hw with rfl|rfl
  .obtain⟨Wc,Z9⟩:=GX hi.Ē (.cells IQ 154 (0,0)) (.cells Vq) (some 13) (.inl ⟨_,_,_,_,rfl,rfl,.inl rfl,oW _,oX,rfl⟩);obtain⟨WG,Pz⟩:=GX Wc (.cells #[.int .i64 0] 3 (0,0)) (.cells [.int .i64 0]) (some 1) (.inl ⟨_,_,_,_,rfl,rfl,.inl rfl,⟨_,[],rfl,rfl,rfl⟩,by simp[Value.oneCell'],rfl⟩);have ha0:LI U w U w:=LI.refl _ _;have:=HN _ _ WG ((ha0.trans Z9).trans Pz) AH w.heap.size (w.heap.size+1) (by simp[Gh.B2]) (by simp[Gh.B2]) (by simp[Gh.B2]) (by simp[Gh.B2]);exact this
  .obtain⟨Wc,Z9⟩:=GX hi (.cells #[.int .i64 0] 3 (0,0)) (.cells [.int .i64 0]) (some 1) (.inl ⟨_,_,_,_,rfl,rfl,.inl rfl,⟨_,[],rfl,rfl,rfl⟩,by simp[Value.oneCell'],rfl⟩);obtain⟨WG,Pz⟩:=GX Wc (.cells IQ 154 (0,0)) (.cells Vq) (some 13) (.inl ⟨_,_,_,_,rfl,rfl,.inl rfl,oW _,oX,rfl⟩);have a:((w.alloc (.cells #[.int .i64 0] 3)).alloc (.cells IQ 154)).heap[w.heap.size]?=some (.cells #[.int .i64 0] 3 (0,0)):=by rw[EN _ _ AH];exact heap_alloc_new w _
   obtain⟨j,Er,V5,Mh,S3⟩:=WG.rel.tV (id:=h.length) (g:=w.heap.size) (cs:=[.int .i64 0]) AH (by simp[Gh.B2]) a (by simp[Gh.B2]) #[.int .i64 0] [.int .i64 0] rfl (.inl rfl) ⟨_,[],rfl,rfl,rfl⟩ (by simp[Value.oneCell']);rw[setRow_self _ _ _ _ _ a] at Mh;have i:(h++[Dx.cells [Aa.int .i64 0]]++[Dx.cells Vq]).set h.length .CR++[Dx.cells [Aa.int .i64 0]]=h++[.CR]++[.cells Vq]++[.cells [.int .i64 0]]:=AH;rw[i] at Mh;have:=HN j _ Mh.D5 (((LI.refl U w).trans Z9).trans Pz |>.trans Mh.DZ) AH (w.heap.size+1) w.heap.size
    (Er.mu _ _ (by simp[Gh.B2])) (by simpa using V5) (Er.sz _ _ (by simp[Gh.B2])) S3
   exact this
end
end Go.Am
