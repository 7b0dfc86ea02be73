/- Lemmas -/
import Derived.Test.YtefjamneieebhaaGreatDoorS14
set_option linter.unusedVariables false
set_option linter.unusedSimpArgs false
namespace Go.Am
open Go Go.RowKit Go.Shelf
section
variable{γ γ':Gh}{h:Ad}{w w':World}
theorem Gp.g_(hi:Gp γ h w):Gp γ (h++[.CG]) w:=by
 have key:∀{id:Nat} {x:Dc},(h++[Dc.CG])[id]?=some x->x≠ .CG->h[id]?=some x:=λ{id x} hx hd=>by
  rcases AT id h.length with hl|hl
  .rwa [Af hl] at hx
  .rw[Bg hl] at hx;cases hk:id-h.length with
   |zero=>rw[hk] at hx;cases hx;exact absurd rfl hd
   |succ k=>rw[hk] at hx;simp at hx
 exact⟨hi.Hy,λid y Ht hy=>hi.KT id y (key Ht hy) hy,λid cs hc b hb=>hi.cells id cs (key hc (by simp)) b hb,λid es hc b hb=>hi.map id es (key hc (by simp)) b hb,λid b hb=>by have:=hi.mu id b hb;simp;omega,hi.own,hi.sz⟩
theorem h_:Proofs.Tryz.prog.follows .mixedOrders=true:=by kernel_rfl
abbrev HK:Array Value:=#[.int .i64 0,.int .i64 0,.slice none 0 0,.int .i64 0,.int .i64 0,.string ⟨#[]⟩,.slice none 0 0,.string ⟨#[]⟩,.string ⟨#[]⟩,.string ⟨#[]⟩,.bool false,.int .i64 0,.int .i64 0]
theorem zl:(Proofs.Tryz.prog.info? 96).map (λi=>(i.zero,i.size,i.bytes))=some (some (.agg HK),13,168):=by kernel_rfl
theorem aD4:(Proofs.Tryz.prog.info? 3).map (λi=>(i.zero,i.size,i.bytes))=some (some (.int .i64 0),1,8):=by kernel_rfl
theorem zm:madeCells (Value.agg HK).cells (Int.toNat 1*13)=HK:=by kernel_rfl
theorem aD5:madeCells (Value.int .i64 0).cells (Int.toNat 1*1)=#[.int .i64 0]:=by kernel_rfl
theorem ic(w:World):(Instr.makeSlice 100 (.int .i64 1) (.int .i64 1)).run Proofs.Tryz.prog w= .ok (.slice (some ⟨w.heap.size,0,none⟩) 1 1) (w.alloc (.cells HK 96)):=by obtain⟨i,hi,h2⟩:=Ky.1 zl;simp only[HR] at h2;obtain⟨h2,h3,h4⟩:=h2;have:=run_make (P:=Proofs.Tryz.prog) w 100 96 i _ Proofs.Tryz.underlying100 hi h2 .i64 .i64 1 1 (by decide) (by decide) (by rw[h4];decide) (by decide);rw[h3,zm] at this;exact this
theorem zn(w:World):(Instr.makeSlice 29 (.int .i64 1) (.int .i64 1)).run Proofs.Tryz.prog w= .ok (.slice (some ⟨w.heap.size,0,none⟩) 1 1) (w.alloc (.cells #[.int .i64 0] 3)):=by obtain⟨i,hi,h2⟩:=Ky.1 aD4;simp only[HR] at h2;obtain⟨h2,h3,h4⟩:=h2;have:=run_make (P:=Proofs.Tryz.prog) w 29 3 i _ Proofs.Tryz.underlying29 hi h2 .i64 .i64 1 1 (by decide) (by decide) (by rw[h4];decide) (by decide);rw[h3,aD5] at this;exact this
set_option maxHeartbeats 2000000 in
set_option maxRecDepth 100000 in
theorem aD6(w:World):Calls Proofs.Tryz.prog 67 #[] w λe w'=>e= .returned (.pointer (some ⟨w.heap.size+1+1,0,none⟩))/\
  (w' = (((w.alloc (.cells HK 96)).alloc (.cells #[.int .i64 0] 3)).alloc (.cells #[.slice (some ⟨w.heap.size, 0, none⟩) 1 1, .slice (some ⟨w.heap.size + 1, 0, none⟩) 1 1] 102)).drew \/
   w' = (((w.alloc (.cells #[.int .i64 0] 3)).alloc (.cells HK 96)).alloc (.cells #[.slice (some ⟨w.heap.size + 1, 0, none⟩) 1 1, .slice (some ⟨w.heap.size, 0, none⟩) 1 1] 102)).drew) := by
 have mixed:=h_;have m1:=ic;have m2:=zn;go_enter Proofs.Tryz.func67,Proofs.Tryz.ntmps67
 go_wp2
 go_region_o
 all_goals go_wp2
 all_goals refine bodyPost_ret (results_tmp rfl _ _ _) rfl ?_
 .exact⟨rfl,.inl rfl⟩
 .exact⟨rfl,.inr rfl⟩
abbrev SZ:List Aa:=[.int .i64 0,.int .i64 0,.slnil,.int .i64 0,.int .i64 0,.str [],.slnil,.str [],.str [],.str [],.bool false,.int .i64 0,.int .i64 0]
theorem aY(γ:Gh):A9 γ SZ HK.toList:=⟨_,_,rfl,rfl,_,_,rfl,rfl,_,_,rfl,rfl,_,_,rfl,rfl,_,_,rfl,rfl,_,_,rfl,rfl,_,_,rfl,rfl,_,_,rfl,rfl,_,_,rfl,rfl,_,_,rfl,rfl,_,_,rfl,rfl,_,_,rfl,rfl,_,_,rfl,rfl,rfl⟩
theorem aZ:∀u∈HK.toList,u.oneCell'=true:=by decide
theorem zo(n:Nat)(args:List Aa)(r:Aa)(h':Ad)(AV:IT.step (B5 cx) (IT.run (B5 cx) n) (T1 args) h=some (.ret,[r],h')):
  (∃fn c,cx.P.funcs[D6 67]?=some fn/\(fn.name== "runtime.NumGoroutine")=false/\fn.body=some c)/\
  ∀(γ:Gh) (w:World) (cargs:Array Value),Gp γ h w->(∀g cs,cx.Gf g=some cs->CI γ cs g 0)->A9 γ args cargs.toList->
   Calls cx.P (D6 67) cargs w λe w'=>match e with
    | .returned v=>∃γ',Gp γ' h' w'/\J3 γ w γ' w'/\BE γ' r v/\(cx.Ii 67=true->∃s c,HV γ' w.heap.size w' s c v r)
    |_=>False:=by
 refine⟨⟨_,_,Proofs.Tryz.func67,rfl,rfl⟩,λγ w cargs hi hg ha=>?_⟩;cases args with
 |cons _ _=>cases AV
 |nil=>
  have hc:cargs=#[]:=by have:=ha.length;exact Sx (by simpa using this)
  subst hc;have Pq:some (EK.ret,[Aa.ptr (some (h.length+3,0))],h++[.CG]++[.cells SZ]++[.cells [.int .i64 0]]++[.cells [.Cl (h.length+1) 0 1 13,.Cl (h.length+2) 0 1 1]])=some (.ret,[r],h'):=AV;simp only[BA,HR,Hp,NN,NO] at Pq;obtain⟨rfl,rfl⟩:=Pq;refine(aD6 w).mono λe w' he=>?_;obtain⟨rfl,hw⟩:=he;have L:∀l:Ad,(l++[Dc.CG]).length=l.length+1:=λl=>by simp
  have Hv:∀(γ1:Gh) (W:World),Gp γ1 (h++[.CG]++[.cells SZ]++[.cells [.int .i64 0]]) W->J3 γ w γ1 W->W.heap.size=w.heap.size+1+1->∀b1 b2,γ1.mu (h.length+1)=some b1->γ1.mu (h.length+2)=some b2->γ1.sz b1=some 13->γ1.sz b2=some 1->
    ∃γ',Gp γ' (h++[.CG]++[.cells SZ]++[.cells [.int .i64 0]]++[.cells [.Cl (h.length+1) 0 1 13,.Cl (h.length+2) 0 1 1]]) (W.alloc (.cells #[.slice (some ⟨b1,0,none⟩) 1 1,.slice (some ⟨b2,0,none⟩) 1 1] 102)).drew/\
     J3 γ w γ' (W.alloc (.cells #[.slice (some ⟨b1,0,none⟩) 1 1,.slice (some ⟨b2,0,none⟩) 1 1] 102)).drew/\BE γ' (.ptr (some (h.length+3,0))) (.pointer (some ⟨w.heap.size+1+1,0,none⟩))/\(cx.Ii 67=true->∃s c,HV γ' w.heap.size (W.alloc (.cells #[.slice (some ⟨b1,0,none⟩) 1 1,.slice (some ⟨b2,0,none⟩) 1 1] 102)).drew s c (.pointer (some ⟨w.heap.size+1+1,0,none⟩)) (.ptr (some (h.length+3,0)))):=by
   intro γ1 W Tw WG hsz b1 b2 m1 m2 z1 z2;obtain⟨TX,NH⟩:=FX Tw (.cells #[.slice (some ⟨b1,0,none⟩) 1 1,.slice (some ⟨b2,0,none⟩) 1 1] 102 (0,0)) (.cells [.Cl (h.length+1) 0 1 13,.Cl (h.length+2) 0 1 1]) (some 2)
    (.inl ⟨_,_,_,_,rfl,rfl,.inl rfl,⟨_,_,rfl,⟨b1,1,m1,rfl,Ac _,⟨by decide,by decide⟩,z1⟩,_,_,rfl,⟨b2,1,m2,rfl,Ac _,⟨by decide,by decide⟩,z2⟩,rfl⟩,by simp[Value.oneCell'],rfl⟩)
   obtain⟨gz,gF⟩:=TX.J6 ((Below.refl _ _).drew);refine⟨_,gz,(WG.trans NH).trans gF,⟨W.heap.size,by simp[Gh.BM],by rw[hsz]⟩,λe=>by cases e⟩
  rcases hw with rfl|rfl
  .obtain⟨Tw,WG⟩:=FX hi.g_ (.cells HK 96 (0,0)) (.cells SZ) (some 13) (.inl ⟨_,_,_,_,rfl,rfl,.inl rfl,aY _,aZ,rfl⟩);obtain⟨TX,NH⟩:=FX Tw (.cells #[.int .i64 0] 3 (0,0)) (.cells [.int .i64 0]) (some 1) (.inl ⟨_,_,_,_,rfl,rfl,.inl rfl,⟨_,[],rfl,rfl,rfl⟩,by simp[Value.oneCell'],rfl⟩);have ha0:J3 γ w γ w:=J3.refl _ _;have:=Hv _ _ TX ((ha0.trans WG).trans NH) (by simp) w.heap.size (w.heap.size+1) (by simp[Gh.BM]) (by simp[Gh.BM]) (by simp[Gh.BM]) (by simp[Gh.BM]);exact this
  .obtain⟨Tw,WG⟩:=FX hi (.cells #[.int .i64 0] 3 (0,0)) (.cells [.int .i64 0]) (some 1) (.inl ⟨_,_,_,_,rfl,rfl,.inl rfl,⟨_,[],rfl,rfl,rfl⟩,by simp[Value.oneCell'],rfl⟩);obtain⟨TX,NH⟩:=FX Tw (.cells HK 96 (0,0)) (.cells SZ) (some 13) (.inl ⟨_,_,_,_,rfl,rfl,.inl rfl,aY _,aZ,rfl⟩);have hw0:((w.alloc (.cells #[.int .i64 0] 3)).alloc (.cells HK 96)).heap[w.heap.size]?=some (.cells #[.int .i64 0] 3 (0,0)):=by rw[Ea _ _ (by simp)];exact heap_alloc_new w _
   obtain⟨γ2,DV,Tq,KX,QI⟩:=TX.rel.fR (id:=h.length) (g:=w.heap.size) (cs:=[.int .i64 0]) (by simp) (by simp[Gh.BM]) hw0 (by simp[Gh.BM]) #[.int .i64 0] [.int .i64 0] rfl (.inl rfl) ⟨_,[],rfl,rfl,rfl⟩ (by simp[Value.oneCell']);rw[setRow_self _ _ _ _ _ hw0] at KX;have hh:(h++[Dc.cells [Aa.int .i64 0]]++[Dc.cells SZ]).set h.length .CG++[Dc.cells [Aa.int .i64 0]]=h++[.CG]++[.cells SZ]++[.cells [.int .i64 0]]:=by simp
   rw[hh] at KX;have:=Hv γ2 _ KX.DD (((J3.refl γ w).trans WG).trans NH |>.trans KX.Dw) (by simp) (w.heap.size+1) w.heap.size
    (DV.mu _ _ (by simp[Gh.BM])) (by simpa using Tq) (DV.sz _ _ (by simp[Gh.BM])) QI
   exact this
end
end Go.Am
