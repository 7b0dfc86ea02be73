/- Lemmas -/
import Derived.Test.YtffmdapalbecoaaGreatDoorO13
set_option linter.all false
namespace Go.Am
open Go Go.RowKit Go.Shelf
section
variable{U U':Gh}{h:Ah}{w w':World}
def HK.Ū(hi:HK U h w):HK U (h++[.CU]) w:=by
 have key:∀{id:Nat} {x:DG},(h++[DG.CU])[id]?=some x->x≠ .CU->h[id]?=some x:=λ{id x} hx hd=>by
  rcases AP id h.length with hl|hl
  .rwa [Ak hl] at hx
  .rw[Bz hl] at hx;cases hk:id-h.length with
   |zero=>rw[hk] at hx;cases hx;exact absurd rfl hd
   |succ k=>rw[hk] at hx;simp at hx
 exact⟨hi.IZ,λid y IC hy=>hi.MR id y (key IC hy) hy,λid cs hc b hb=>hi.cells id cs (key hc AH) b hb,λid es hc b hb=>hi.map id es (key hc AH) b hb,λid b hb=>by have:=hi.mu id b hb;simp;omega,hi.Bu,hi.sz⟩
def ū:Proofs.Tryz.prog.follows .mixedOrders=true:=C8
abbrev I9:Array Value:=#[.int .i64 0,.int .i64 0,.slice none 0 0,.int .i64 0,.int .i64 0,.string ⟨#[]⟩,.slice none 0 0,.string ⟨#[]⟩,.string ⟨#[]⟩,.string ⟨#[]⟩,.bool false,.int .i64 0,.int .i64 0]
def aEX:(Proofs.Tryz.prog.info? 153).map (λi=>(i.zero,i.size,i.bytes))=some (some (.agg I9),13,168):=C8
def aII:(Proofs.Tryz.prog.info? 3).map (λi=>(i.zero,i.size,i.bytes))=some (some (.int .i64 0),1,8):=C8
def aEY:madeCells (Value.agg I9).cells (Int.toNat 1*13)=I9:=C8
def aIJ:madeCells (Value.int .i64 0).cells (Int.toNat 1*1)=#[.int .i64 0]:=C8
def Ŭ(w:World):(Instr.makeSlice 165 (.int .i64 1) (.int .i64 1)).run Proofs.Tryz.prog w= .ok (.slice (some ⟨w.heap.size,0,none⟩) 1 1) (w.alloc (.cells I9 153)):=by obtain⟨i,hi,h2⟩:=Ns.1 aEX;simp only[J4] at h2;obtain⟨h2,b,a⟩:=h2;have:=run_make (P:=Proofs.Tryz.prog) w 165 153 i _ Proofs.Tryz.underlying165 hi h2 .i64 .i64 1 1 Bf Bf (by rw[a];decide) Bf;rw[b,aEY] at this;exact this
def aEZ(w:World):(Instr.makeSlice 83 (.int .i64 1) (.int .i64 1)).run Proofs.Tryz.prog w= .ok (.slice (some ⟨w.heap.size,0,none⟩) 1 1) (w.alloc (.cells #[.int .i64 0] 3)):=by obtain⟨i,hi,h2⟩:=Ns.1 aII;simp only[J4] at h2;obtain⟨h2,b,a⟩:=h2;have:=run_make (P:=Proofs.Tryz.prog) w 83 3 i _ Proofs.Tryz.underlying83 hi h2 .i64 .i64 1 1 Bf Bf (by rw[a];decide) Bf;rw[b,aIJ] at this;exact this
set_option maxHeartbeats 2000000 in
set_option maxRecDepth 100000 in
def aIK(w:World):Calls Proofs.Tryz.prog 60 #[] w λe w'=>e= .returned (.pointer (some ⟨w.heap.size+1+1,0,none⟩))/\
  (w' = (((w.alloc (.cells I9 153)).alloc (.cells #[.int .i64 0] 3)).alloc (.cells #[.slice (some ⟨w.heap.size, 0, none⟩) 1 1, .slice (some ⟨w.heap.size + 1, 0, none⟩) 1 1] 192)).drew \/
   w' = (((w.alloc (.cells #[.int .i64 0] 3)).alloc (.cells I9 153)).alloc (.cells #[.slice (some ⟨w.heap.size + 1, 0, none⟩) 1 1, .slice (some ⟨w.heap.size, 0, none⟩) 1 1] 192)).drew) := by
 have mixed:=ū;have b:=Ŭ;have a:=aEZ;go_enter Proofs.Tryz.func60,Proofs.Tryz.ntmps60
 go_wp2
 go_region_o
 all_goals go_wp2
 all_goals refine bodyPost_ret (results_tmp rfl _ _ _) rfl ?_
 .exact⟨rfl,.inl rfl⟩
 .exact⟨rfl,.inr rfl⟩
abbrev Wf:List Aa:=[.int .i64 0,.int .i64 0,.slnil,.int .i64 0,.int .i64 0,.str [],.slnil,.str [],.str [],.str [],.bool false,.int .i64 0,.int .i64 0]
def rI(U:Gh):Bp U Wf I9.toList:=⟨_,_,rfl,rfl,_,_,rfl,rfl,_,_,rfl,rfl,_,_,rfl,rfl,_,_,rfl,rfl,_,_,rfl,rfl,_,_,rfl,rfl,_,_,rfl,rfl,_,_,rfl,rfl,_,_,rfl,rfl,_,_,rfl,rfl,_,_,rfl,rfl,_,_,rfl,rfl,rfl⟩
def rJ:∀u∈I9.toList,u.oneCell'=true:=Bf
def aE0(n:Nat)(args:List Aa)(r:Aa)(h':Ah)(Bb:IT.step (B8 cx) (IT.run (B8 cx) n) (XE args) h=some (.ret,[r],h')):
  (∃fn c,cx.P.funcs[E0 60]?=some fn/\(fn.name== "runtime.NumGoroutine")=false/\fn.body=some c)/\
  ∀(U:Gh) (w:World) (cargs:Array Value),HK U h w->(∀g cs,cx.HO g=some cs->Df U cs g 0)->Bp U args cargs.toList->
   Calls cx.P (E0 60) cargs w λe w'=>match e with
    | .returned v=>∃U',HK U' h' w'/\LQ U w U' w'/\BT U' r v/\(cx.JM 60=true->∃s c,Jp U' w.heap.size w' s c v r)
    |_=>False:=by
 refine⟨⟨_,_,Proofs.Tryz.func60,rfl,rfl⟩,λU w cargs hi hg ha=>?_⟩;cases args with
 |cons _ _=>cases Bb
 |nil=>
  have hc:cargs=#[]:=by have:=ha.length;exact Jj (by simpa using this)
  subst hc;have R7:some (Dm.ret,[Aa.ptr (some (h.length+3,0))],h++[.CU]++[.cells Wf]++[.cells [.int .i64 0]]++[.cells [.CC (h.length+1) 0 1 13,.CC (h.length+2) 0 1 1]])=some (.ret,[r],h'):=Bb;simp only[BF,J4,Fs,Np,Nr] at R7;obtain⟨rfl,rfl⟩:=R7;refine(aIK w).mono λe w' he=>?_;obtain⟨rfl,hw⟩:=he;have L:∀l:Ah,(l++[DG.CU]).length=l.length+1:=λl=>AH;have He:∀(U1:Gh) (W:World),HK U1 (h++[.CU]++[.cells Wf]++[.cells [.int .i64 0]]) W->LQ U w U1 W->W.heap.size=w.heap.size+1+1->∀b1 b2,U1.mu (h.length+1)=some b1->U1.mu (h.length+2)=some b2->U1.sz b1=some 13->U1.sz b2=some 1->
    ∃U',HK U' (h++[.CU]++[.cells Wf]++[.cells [.int .i64 0]]++[.cells [.CC (h.length+1) 0 1 13,.CC (h.length+2) 0 1 1]]) (W.alloc (.cells #[.slice (some ⟨b1,0,none⟩) 1 1,.slice (some ⟨b2,0,none⟩) 1 1] 192)).drew/\
     LQ U w U' (W.alloc (.cells #[.slice (some ⟨b1,0,none⟩) 1 1,.slice (some ⟨b2,0,none⟩) 1 1] 192)).drew/\BT U' (.ptr (some (h.length+3,0))) (.pointer (some ⟨w.heap.size+1+1,0,none⟩))/\(cx.JM 60=true->∃s c,Jp U' w.heap.size (W.alloc (.cells #[.slice (some ⟨b1,0,none⟩) 1 1,.slice (some ⟨b2,0,none⟩) 1 1] 192)).drew s c (.pointer (some ⟨w.heap.size+1+1,0,none⟩)) (.ptr (some (h.length+3,0)))):=by
   intro U1 W Xa cD LC b1 b2 f d b z2;obtain⟨Xz,PV⟩:=Hp Xa (.cells #[.slice (some ⟨b1,0,none⟩) 1 1,.slice (some ⟨b2,0,none⟩) 1 1] 192 (0,0)) (.cells [.CC (h.length+1) 0 1 13,.CC (h.length+2) 0 1 1]) (some 2)
    (.inl ⟨_,_,_,_,rfl,rfl,.inl rfl,⟨_,_,rfl,⟨b1,1,f,rfl,Ae _,⟨Bf,Bf⟩,b⟩,_,_,rfl,⟨b2,1,d,rfl,Ae _,⟨Bf,Bf⟩,z2⟩,rfl⟩,by simp[Value.oneCell'],rfl⟩)
   obtain⟨ũ,xM⟩:=Xz.LW ((Below.refl _ _).drew);refine⟨_,ũ,(cD.trans PV).trans xM,⟨W.heap.size,by simp[Gh.BW],by rw[LC]⟩,λe=>by cases e⟩
  rcases hw with rfl|rfl
  .obtain⟨Xa,cD⟩:=Hp hi.Ū (.cells I9 153 (0,0)) (.cells Wf) (some 13) (.inl ⟨_,_,_,_,rfl,rfl,.inl rfl,rI _,rJ,rfl⟩);obtain⟨Xz,PV⟩:=Hp Xa (.cells #[.int .i64 0] 3 (0,0)) (.cells [.int .i64 0]) (some 1) (.inl ⟨_,_,_,_,rfl,rfl,.inl rfl,⟨_,[],rfl,rfl,rfl⟩,by simp[Value.oneCell'],rfl⟩);have ha0:LQ U w U w:=LQ.refl _ _;have:=He _ _ Xz ((ha0.trans cD).trans PV) AH w.heap.size (w.heap.size+1) (by simp[Gh.BW]) (by simp[Gh.BW]) (by simp[Gh.BW]) (by simp[Gh.BW]);exact this
  .obtain⟨Xa,cD⟩:=Hp hi (.cells #[.int .i64 0] 3 (0,0)) (.cells [.int .i64 0]) (some 1) (.inl ⟨_,_,_,_,rfl,rfl,.inl rfl,⟨_,[],rfl,rfl,rfl⟩,by simp[Value.oneCell'],rfl⟩);obtain⟨Xz,PV⟩:=Hp Xa (.cells I9 153 (0,0)) (.cells Wf) (some 13) (.inl ⟨_,_,_,_,rfl,rfl,.inl rfl,rI _,rJ,rfl⟩);have a:((w.alloc (.cells #[.int .i64 0] 3)).alloc (.cells I9 153)).heap[w.heap.size]?=some (.cells #[.int .i64 0] 3 (0,0)):=by rw[E6 _ _ AH];exact heap_alloc_new w _
   obtain⟨j,EH,TF,LU,TG⟩:=Xz.rel.wX (id:=h.length) (g:=w.heap.size) (cs:=[.int .i64 0]) AH (by simp[Gh.BW]) a (by simp[Gh.BW]) #[.int .i64 0] [.int .i64 0] rfl (.inl rfl) ⟨_,[],rfl,rfl,rfl⟩ (by simp[Value.oneCell']);rw[setRow_self _ _ _ _ _ a] at LU;have i:(h++[DG.cells [Aa.int .i64 0]]++[DG.cells Wf]).set h.length .CU++[DG.cells [Aa.int .i64 0]]=h++[.CU]++[.cells Wf]++[.cells [.int .i64 0]]:=AH;rw[i] at LU;have:=He j _ LU.Eh (((LQ.refl U w).trans cD).trans PV |>.trans LU.Ed) AH (w.heap.size+1) w.heap.size
    (EH.mu _ _ (by simp[Gh.BW])) (by simpa using TF) (EH.sz _ _ (by simp[Gh.BW])) TG
   exact this
end
end Go.Am
