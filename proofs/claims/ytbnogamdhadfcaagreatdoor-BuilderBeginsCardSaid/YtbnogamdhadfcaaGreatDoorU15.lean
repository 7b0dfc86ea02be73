/- Lemmas -/
import Derived.Test.YtbnogamdhadfcaaGreatDoorU14
set_option linter.unusedVariables false
set_option linter.unusedSimpArgs false
namespace Go.Am
open Go Go.RowKit Go.Shelf
section
variable{γ γ':Gh}{h:Ae}{w w':World}
theorem Gs.gp(hi:Gs γ h w):Gs γ (h++[.CG]) w:=by
 have key:∀{id:Nat} {x:De},(h++[De.CG])[id]?=some x->x≠ .CG->h[id]?=some x:=λ{id x} hx hd=>by
  rcases AT id h.length with hl|hl
  .rwa [Ad hl] at hx
  .rw[Bg hl] at hx;cases hk:id-h.length with
   |zero=>rw[hk] at hx;cases hx;exact absurd rfl hd
   |succ k=>rw[hk] at hx;simp at hx
 exact⟨hi.HA,λid y Hj hy=>hi.KW id y (key Hj hy) hy,λid cs hc b hb=>hi.cells id cs (key hc (by simp)) b hb,λid es hc b hb=>hi.map id es (key hc (by simp)) b hb,λid b hb=>by have:=hi.mu id b hb;simp;omega,hi.own,hi.sz⟩
theorem gq:Proofs.Tryz.prog.follows .mixedOrders=true:=by kernel_rfl
abbrev HL:Array Value:=#[.int .i64 0,.int .i64 0,.slice none 0 0,.int .i64 0,.int .i64 0,.string ⟨#[]⟩,.slice none 0 0,.string ⟨#[]⟩,.string ⟨#[]⟩,.string ⟨#[]⟩,.bool false,.int .i64 0,.int .i64 0]
theorem zr:(Proofs.Tryz.prog.info? 86).map (λi=>(i.zero,i.size,i.bytes))=some (some (.agg HL),13,168):=by kernel_rfl
theorem aD4:(Proofs.Tryz.prog.info? 3).map (λi=>(i.zero,i.size,i.bytes))=some (some (.int .i64 0),1,8):=by kernel_rfl
theorem zt:madeCells (Value.agg HL).cells (Int.toNat 1*13)=HL:=by kernel_rfl
theorem aD5:madeCells (Value.int .i64 0).cells (Int.toNat 1*1)=#[.int .i64 0]:=by kernel_rfl
theorem gr(w:World):(Instr.makeSlice 82 (.int .i64 1) (.int .i64 1)).run Proofs.Tryz.prog w= .ok (.slice (some ⟨w.heap.size,0,none⟩) 1 1) (w.alloc (.cells HL 86)):=by obtain⟨i,hi,h2⟩:=c_.1 zr;simp only[KS] at h2;obtain⟨h2,h3,h4⟩:=h2;have:=run_make (P:=Proofs.Tryz.prog) w 82 86 i _ Proofs.Tryz.underlying82 hi h2 .i64 .i64 1 1 (by decide) (by decide) (by rw[h4];decide) (by decide);rw[h3,zt] at this;exact this
theorem zu(w:World):(Instr.makeSlice 62 (.int .i64 1) (.int .i64 1)).run Proofs.Tryz.prog w= .ok (.slice (some ⟨w.heap.size,0,none⟩) 1 1) (w.alloc (.cells #[.int .i64 0] 3)):=by obtain⟨i,hi,h2⟩:=c_.1 aD4;simp only[KS] at h2;obtain⟨h2,h3,h4⟩:=h2;have:=run_make (P:=Proofs.Tryz.prog) w 62 3 i _ Proofs.Tryz.underlying62 hi h2 .i64 .i64 1 1 (by decide) (by decide) (by rw[h4];decide) (by decide);rw[h3,aD5] at this;exact this
set_option maxHeartbeats 2000000 in
set_option maxRecDepth 100000 in
theorem aD6(w:World):Calls Proofs.Tryz.prog 36 #[] w λe w'=>e= .returned (.pointer (some ⟨w.heap.size+1+1,0,none⟩))/\
  (w' = (((w.alloc (.cells HL 86)).alloc (.cells #[.int .i64 0] 3)).alloc (.cells #[.slice (some ⟨w.heap.size, 0, none⟩) 1 1, .slice (some ⟨w.heap.size + 1, 0, none⟩) 1 1] 136)).drew \/
   w' = (((w.alloc (.cells #[.int .i64 0] 3)).alloc (.cells HL 86)).alloc (.cells #[.slice (some ⟨w.heap.size + 1, 0, none⟩) 1 1, .slice (some ⟨w.heap.size, 0, none⟩) 1 1] 136)).drew) := by
 have mixed:=gq;have m1:=gr;have m2:=zu;go_enter Proofs.Tryz.func36,Proofs.Tryz.ntmps36
 go_wp2
 go_region_o
 all_goals go_wp2
 all_goals refine bodyPost_ret (results_tmp rfl _ _ _) rfl ?_
 .exact⟨rfl,.inl rfl⟩
 .exact⟨rfl,.inr rfl⟩
abbrev SQ:List Aa:=[.int .i64 0,.int .i64 0,.slnil,.int .i64 0,.int .i64 0,.str [],.slnil,.str [],.str [],.str [],.bool false,.int .i64 0,.int .i64 0]
theorem aQ(γ:Gh):A8 γ SQ HL.toList:=⟨_,_,rfl,rfl,_,_,rfl,rfl,_,_,rfl,rfl,_,_,rfl,rfl,_,_,rfl,rfl,_,_,rfl,rfl,_,_,rfl,rfl,_,_,rfl,rfl,_,_,rfl,rfl,_,_,rfl,rfl,_,_,rfl,rfl,_,_,rfl,rfl,_,_,rfl,rfl,rfl⟩
theorem aR:∀u∈HL.toList,u.oneCell'=true:=by decide
theorem zw(n:Nat)(args:List Aa)(r:Aa)(h':Ae)(AU:IT.step (B5 cx) (IT.run (B5 cx) n) (TW args) h=some (.ret,[r],h')):
  (∃fn c,cx.P.funcs[D7 36]?=some fn/\(fn.name== "runtime.NumGoroutine")=false/\fn.body=some c)/\
  ∀(γ:Gh) (w:World) (cargs:Array Value),Gs γ h w->(∀g cs,cx.Gj g=some cs->CI γ cs g 0)->A8 γ args cargs.toList->
   Calls cx.P (D7 36) cargs w λe w'=>match e with
    | .returned v=>∃γ',Gs γ' h' w'/\J1 γ w γ' w'/\BF γ' r v/\(cx.Ii 36=true->∃s c,HU γ' w.heap.size w' s c v r)
    |_=>False:=by
 refine⟨⟨_,_,Proofs.Tryz.func36,rfl,rfl⟩,λγ w cargs hi hg ha=>?_⟩;cases args with
 |cons _ _=>cases AU
 |nil=>
  have hc:cargs=#[]:=by have:=ha.length;exact Sp (by simpa using this)
  subst hc;have Ph:some (EL.ret,[Aa.ptr (some (h.length+3,0))],h++[.CG]++[.cells SQ]++[.cells [.int .i64 0]]++[.cells [.Cm (h.length+1) 0 1 13,.Cm (h.length+2) 0 1 1]])=some (.ret,[r],h'):=AU;simp only[BC,KS,Hr,NB,NC] at Ph;obtain⟨rfl,rfl⟩:=Ph;refine(aD6 w).mono λe w' he=>?_;obtain⟨rfl,hw⟩:=he;have L:∀l:Ae,(l++[De.CG]).length=l.length+1:=λl=>by simp
  have Hy:∀(γ1:Gh) (W:World),Gs γ1 (h++[.CG]++[.cells SQ]++[.cells [.int .i64 0]]) W->J1 γ w γ1 W->W.heap.size=w.heap.size+1+1->∀b1 b2,γ1.mu (h.length+1)=some b1->γ1.mu (h.length+2)=some b2->γ1.sz b1=some 13->γ1.sz b2=some 1->
    ∃γ',Gs γ' (h++[.CG]++[.cells SQ]++[.cells [.int .i64 0]]++[.cells [.Cm (h.length+1) 0 1 13,.Cm (h.length+2) 0 1 1]]) (W.alloc (.cells #[.slice (some ⟨b1,0,none⟩) 1 1,.slice (some ⟨b2,0,none⟩) 1 1] 136)).drew/\
     J1 γ w γ' (W.alloc (.cells #[.slice (some ⟨b1,0,none⟩) 1 1,.slice (some ⟨b2,0,none⟩) 1 1] 136)).drew/\BF γ' (.ptr (some (h.length+3,0))) (.pointer (some ⟨w.heap.size+1+1,0,none⟩))/\(cx.Ii 36=true->∃s c,HU γ' w.heap.size (W.alloc (.cells #[.slice (some ⟨b1,0,none⟩) 1 1,.slice (some ⟨b2,0,none⟩) 1 1] 136)).drew s c (.pointer (some ⟨w.heap.size+1+1,0,none⟩)) (.ptr (some (h.length+3,0)))):=by
   intro γ1 W Tn WB hsz b1 b2 m1 m2 z1 z2;obtain⟨TR,Nv⟩:=F0 Tn (.cells #[.slice (some ⟨b1,0,none⟩) 1 1,.slice (some ⟨b2,0,none⟩) 1 1] 136 (0,0)) (.cells [.Cm (h.length+1) 0 1 13,.Cm (h.length+2) 0 1 1]) (some 2)
    (.inl ⟨_,_,_,_,rfl,rfl,.inl rfl,⟨_,_,rfl,⟨b1,1,m1,rfl,Ac _,⟨by decide,by decide⟩,z1⟩,_,_,rfl,⟨b2,1,m2,rfl,Ac _,⟨by decide,by decide⟩,z2⟩,rfl⟩,by simp[Value.oneCell'],rfl⟩)
   obtain⟨gm,fV⟩:=TR.J5 ((Below.refl _ _).drew);refine⟨_,gm,(WB.trans Nv).trans fV,⟨W.heap.size,by simp[Gh.BL],by rw[hsz]⟩,λe=>by cases e⟩
  rcases hw with rfl|rfl
  .obtain⟨Tn,WB⟩:=F0 hi.gp (.cells HL 86 (0,0)) (.cells SQ) (some 13) (.inl ⟨_,_,_,_,rfl,rfl,.inl rfl,aQ _,aR,rfl⟩);obtain⟨TR,Nv⟩:=F0 Tn (.cells #[.int .i64 0] 3 (0,0)) (.cells [.int .i64 0]) (some 1) (.inl ⟨_,_,_,_,rfl,rfl,.inl rfl,⟨_,[],rfl,rfl,rfl⟩,by simp[Value.oneCell'],rfl⟩);have ha0:J1 γ w γ w:=J1.refl _ _;have:=Hy _ _ TR ((ha0.trans WB).trans Nv) (by simp) w.heap.size (w.heap.size+1) (by simp[Gh.BL]) (by simp[Gh.BL]) (by simp[Gh.BL]) (by simp[Gh.BL]);exact this
  .obtain⟨Tn,WB⟩:=F0 hi (.cells #[.int .i64 0] 3 (0,0)) (.cells [.int .i64 0]) (some 1) (.inl ⟨_,_,_,_,rfl,rfl,.inl rfl,⟨_,[],rfl,rfl,rfl⟩,by simp[Value.oneCell'],rfl⟩);obtain⟨TR,Nv⟩:=F0 Tn (.cells HL 86 (0,0)) (.cells SQ) (some 13) (.inl ⟨_,_,_,_,rfl,rfl,.inl rfl,aQ _,aR,rfl⟩);have hw0:((w.alloc (.cells #[.int .i64 0] 3)).alloc (.cells HL 86)).heap[w.heap.size]?=some (.cells #[.int .i64 0] 3 (0,0)):=by rw[Eb _ _ (by simp)];exact heap_alloc_new w _
   obtain⟨γ2,DW,Th,K0,QD⟩:=TR.rel.fG (id:=h.length) (g:=w.heap.size) (cs:=[.int .i64 0]) (by simp) (by simp[Gh.BL]) hw0 (by simp[Gh.BL]) #[.int .i64 0] [.int .i64 0] rfl (.inl rfl) ⟨_,[],rfl,rfl,rfl⟩ (by simp[Value.oneCell']);rw[setRow_self _ _ _ _ _ hw0] at K0;have hh:(h++[De.cells [Aa.int .i64 0]]++[De.cells SQ]).set h.length .CG++[De.cells [Aa.int .i64 0]]=h++[.CG]++[.cells SQ]++[.cells [.int .i64 0]]:=by simp
   rw[hh] at K0;have:=Hy γ2 _ K0.DD (((J1.refl γ w).trans WB).trans Nv |>.trans K0.Dw) (by simp) (w.heap.size+1) w.heap.size
    (DW.mu _ _ (by simp[Gh.BL])) (by simpa using Th) (DW.sz _ _ (by simp[Gh.BL])) QD
   exact this
end
end Go.Am
