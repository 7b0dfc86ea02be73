/- Lemmas -/
import Derived.Test.YtbnogamdhadfcaaGreatDoorT14
set_option linter.unusedVariables false
set_option linter.unusedSimpArgs false
namespace Go.Am
open Go Go.RowKit Go.Shelf
section
variable{γ γ':Gh}{h:Ag}{w w':World}
theorem Gq.gy(hi:Gq γ h w):Gq γ (h++[.CH]) w:=by
 have key:∀{id:Nat} {x:C6},(h++[C6.CH])[id]?=some x->x≠ .CH->h[id]?=some x:=λ{id x} hx hd=>by
  rcases AN id h.length with hl|hl
  .rwa [Ad hl] at hx
  .rw[A5 hl] at hx;cases hk:id-h.length with
   |zero=>rw[hk] at hx;cases hx;exact absurd rfl hd
   |succ k=>rw[hk] at hx;simp at hx
 exact⟨hi.HD,λid y Ha hy=>hi.KY id y (key Ha hy) hy,λid cs hc b hb=>hi.cells id cs (key hc (by simp)) b hb,λid es hc b hb=>hi.map id es (key hc (by simp)) b hb,λid b hb=>by have:=hi.mu id b hb;simp;omega,hi.own,hi.sz⟩
theorem gz:Proofs.Tryz.prog.follows .mixedOrders=true:=by kernel_rfl
abbrev HM:Array Value:=#[.int .i64 0,.int .i64 0,.slice none 0 0,.int .i64 0,.int .i64 0,.string ⟨#[]⟩,.slice none 0 0,.string ⟨#[]⟩,.string ⟨#[]⟩,.string ⟨#[]⟩,.bool false,.int .i64 0,.int .i64 0]
theorem zo:(Proofs.Tryz.prog.info? 86).map (λi=>(i.zero,i.size,i.bytes))=some (some (.agg HM),13,168):=by kernel_rfl
theorem aDZ:(Proofs.Tryz.prog.info? 3).map (λi=>(i.zero,i.size,i.bytes))=some (some (.int .i64 0),1,8):=by kernel_rfl
theorem zp:madeCells (Value.agg HM).cells (Int.toNat 1*13)=HM:=by kernel_rfl
theorem aD0:madeCells (Value.int .i64 0).cells (Int.toNat 1*1)=#[.int .i64 0]:=by kernel_rfl
theorem g_(w:World):(Instr.makeSlice 82 (.int .i64 1) (.int .i64 1)).run Proofs.Tryz.prog w= .ok (.slice (some ⟨w.heap.size,0,none⟩) 1 1) (w.alloc (.cells HM 86)):=by obtain⟨i,hi,h2⟩:=de.1 zo;simp only[KU] at h2;obtain⟨h2,h3,h4⟩:=h2;have:=run_make (P:=Proofs.Tryz.prog) w 82 86 i _ Proofs.Tryz.underlying82 hi h2 .i64 .i64 1 1 (by decide) (by decide) (by rw[h4];decide) (by decide);rw[h3,zp] at this;exact this
theorem zq(w:World):(Instr.makeSlice 62 (.int .i64 1) (.int .i64 1)).run Proofs.Tryz.prog w= .ok (.slice (some ⟨w.heap.size,0,none⟩) 1 1) (w.alloc (.cells #[.int .i64 0] 3)):=by obtain⟨i,hi,h2⟩:=de.1 aDZ;simp only[KU] at h2;obtain⟨h2,h3,h4⟩:=h2;have:=run_make (P:=Proofs.Tryz.prog) w 62 3 i _ Proofs.Tryz.underlying62 hi h2 .i64 .i64 1 1 (by decide) (by decide) (by rw[h4];decide) (by decide);rw[h3,aD0] at this;exact this
set_option maxHeartbeats 2000000 in
set_option maxRecDepth 100000 in
theorem aD1(w:World):Calls Proofs.Tryz.prog 36 #[] w λe w'=>e= .returned (.pointer (some ⟨w.heap.size+1+1,0,none⟩))/\
  (w' = (((w.alloc (.cells HM 86)).alloc (.cells #[.int .i64 0] 3)).alloc (.cells #[.slice (some ⟨w.heap.size, 0, none⟩) 1 1, .slice (some ⟨w.heap.size + 1, 0, none⟩) 1 1] 136)).drew \/
   w' = (((w.alloc (.cells #[.int .i64 0] 3)).alloc (.cells HM 86)).alloc (.cells #[.slice (some ⟨w.heap.size + 1, 0, none⟩) 1 1, .slice (some ⟨w.heap.size, 0, none⟩) 1 1] 136)).drew) := by
 have mixed:=gz;have m1:=g_;have m2:=zq;go_enter Proofs.Tryz.func36,Proofs.Tryz.ntmps36
 go_wp2
 go_region_o
 all_goals go_wp2
 all_goals refine bodyPost_ret (results_tmp rfl _ _ _) rfl ?_
 .exact⟨rfl,.inl rfl⟩
 .exact⟨rfl,.inr rfl⟩
abbrev SW:List Aa:=[.int .i64 0,.int .i64 0,.slnil,.int .i64 0,.int .i64 0,.str [],.slnil,.str [],.str [],.str [],.bool false,.int .i64 0,.int .i64 0]
theorem aQ(γ:Gh):Bb γ SW HM.toList:=⟨_,_,rfl,rfl,_,_,rfl,rfl,_,_,rfl,rfl,_,_,rfl,rfl,_,_,rfl,rfl,_,_,rfl,rfl,_,_,rfl,rfl,_,_,rfl,rfl,_,_,rfl,rfl,_,_,rfl,rfl,_,_,rfl,rfl,_,_,rfl,rfl,_,_,rfl,rfl,rfl⟩
theorem aR:∀u∈HM.toList,u.oneCell'=true:=by decide
theorem zr(n:Nat)(args:List Aa)(r:Aa)(h':Ag)(AV:IT.step (B5 cx) (IT.run (B5 cx) n) (TY args) h=some (.ret,[r],h')):
  (∃fn c,cx.P.funcs[Ea 36]?=some fn/\(fn.name== "runtime.NumGoroutine")=false/\fn.body=some c)/\
  ∀(γ:Gh) (w:World) (cargs:Array Value),Gq γ h w->(∀g cs,cx.Gg g=some cs->CJ γ cs g 0)->Bb γ args cargs.toList->
   Calls cx.P (Ea 36) cargs w λe w'=>match e with
    | .returned v=>∃γ',Gq γ' h' w'/\J7 γ w γ' w'/\BH γ' r v/\(cx.Io 36=true->∃s c,HY γ' w.heap.size w' s c v r)
    |_=>False:=by
 refine⟨⟨_,_,Proofs.Tryz.func36,rfl,rfl⟩,λγ w cargs hi hg ha=>?_⟩;cases args with
 |cons _ _=>cases AV
 |nil=>
  have hc:cargs=#[]:=by have:=ha.length;exact Su (by simpa using this)
  subst hc;have Pm:some (EN.ret,[Aa.ptr (some (h.length+3,0))],h++[.CH]++[.cells SW]++[.cells [.int .i64 0]]++[.cells [.Ck (h.length+1) 0 1 13,.Ck (h.length+2) 0 1 1]])=some (.ret,[r],h'):=AV;simp only[BF,KU,Hu,NF,LZ] at Pm;obtain⟨rfl,rfl⟩:=Pm;refine(aD1 w).mono λe w' he=>?_;obtain⟨rfl,hw⟩:=he;have L:∀l:Ag,(l++[C6.CH]).length=l.length+1:=λl=>by simp
  have GM:∀(γ1:Gh) (W:World),Gq γ1 (h++[.CH]++[.cells SW]++[.cells [.int .i64 0]]) W->J7 γ w γ1 W->W.heap.size=w.heap.size+1+1->∀b1 b2,γ1.mu (h.length+1)=some b1->γ1.mu (h.length+2)=some b2->γ1.sz b1=some 13->γ1.sz b2=some 1->
    ∃γ',Gq γ' (h++[.CH]++[.cells SW]++[.cells [.int .i64 0]]++[.cells [.Ck (h.length+1) 0 1 13,.Ck (h.length+2) 0 1 1]]) (W.alloc (.cells #[.slice (some ⟨b1,0,none⟩) 1 1,.slice (some ⟨b2,0,none⟩) 1 1] 136)).drew/\
     J7 γ w γ' (W.alloc (.cells #[.slice (some ⟨b1,0,none⟩) 1 1,.slice (some ⟨b2,0,none⟩) 1 1] 136)).drew/\BH γ' (.ptr (some (h.length+3,0))) (.pointer (some ⟨w.heap.size+1+1,0,none⟩))/\(cx.Io 36=true->∃s c,HY γ' w.heap.size (W.alloc (.cells #[.slice (some ⟨b1,0,none⟩) 1 1,.slice (some ⟨b2,0,none⟩) 1 1] 136)).drew s c (.pointer (some ⟨w.heap.size+1+1,0,none⟩)) (.ptr (some (h.length+3,0)))):=by
   intro γ1 W Tr WD hsz b1 b2 m1 m2 z1 z2;obtain⟨TT,Nz⟩:=FZ Tr (.cells #[.slice (some ⟨b1,0,none⟩) 1 1,.slice (some ⟨b2,0,none⟩) 1 1] 136 (0,0)) (.cells [.Ck (h.length+1) 0 1 13,.Ck (h.length+2) 0 1 1]) (some 2)
    (.inl ⟨_,_,_,_,rfl,rfl,.inl rfl,⟨_,_,rfl,⟨b1,1,m1,rfl,Ac _,⟨by decide,by decide⟩,z1⟩,_,_,rfl,⟨b2,1,m2,rfl,Ac _,⟨by decide,by decide⟩,z2⟩,rfl⟩,by simp[Value.oneCell'],rfl⟩)
   obtain⟨gw,fQ⟩:=TT.Ka ((Below.refl _ _).drew);refine⟨_,gw,(WD.trans Nz).trans fQ,⟨W.heap.size,by simp[Gh.BL],by rw[hsz]⟩,λe=>by cases e⟩
  rcases hw with rfl|rfl
  .obtain⟨Tr,WD⟩:=FZ hi.gy (.cells HM 86 (0,0)) (.cells SW) (some 13) (.inl ⟨_,_,_,_,rfl,rfl,.inl rfl,aQ _,aR,rfl⟩);obtain⟨TT,Nz⟩:=FZ Tr (.cells #[.int .i64 0] 3 (0,0)) (.cells [.int .i64 0]) (some 1) (.inl ⟨_,_,_,_,rfl,rfl,.inl rfl,⟨_,[],rfl,rfl,rfl⟩,by simp[Value.oneCell'],rfl⟩);have ha0:J7 γ w γ w:=J7.refl _ _;have:=GM _ _ TT ((ha0.trans WD).trans Nz) (by simp) w.heap.size (w.heap.size+1) (by simp[Gh.BL]) (by simp[Gh.BL]) (by simp[Gh.BL]) (by simp[Gh.BL]);exact this
  .obtain⟨Tr,WD⟩:=FZ hi (.cells #[.int .i64 0] 3 (0,0)) (.cells [.int .i64 0]) (some 1) (.inl ⟨_,_,_,_,rfl,rfl,.inl rfl,⟨_,[],rfl,rfl,rfl⟩,by simp[Value.oneCell'],rfl⟩);obtain⟨TT,Nz⟩:=FZ Tr (.cells HM 86 (0,0)) (.cells SW) (some 13) (.inl ⟨_,_,_,_,rfl,rfl,.inl rfl,aQ _,aR,rfl⟩);have hw0:((w.alloc (.cells #[.int .i64 0] 3)).alloc (.cells HM 86)).heap[w.heap.size]?=some (.cells #[.int .i64 0] 3 (0,0)):=by rw[Eg _ _ (by simp)];exact heap_alloc_new w _
   obtain⟨γ2,DY,Tl,K5,QC⟩:=TT.rel.fD (id:=h.length) (g:=w.heap.size) (cs:=[.int .i64 0]) (by simp) (by simp[Gh.BL]) hw0 (by simp[Gh.BL]) #[.int .i64 0] [.int .i64 0] rfl (.inl rfl) ⟨_,[],rfl,rfl,rfl⟩ (by simp[Value.oneCell']);rw[setRow_self _ _ _ _ _ hw0] at K5;have hh:(h++[C6.cells [Aa.int .i64 0]]++[C6.cells SW]).set h.length .CH++[C6.cells [Aa.int .i64 0]]=h++[.CH]++[.cells SW]++[.cells [.int .i64 0]]:=by simp
   rw[hh] at K5;have:=GM γ2 _ K5.DD (((J7.refl γ w).trans WD).trans Nz |>.trans K5.Dw) (by simp) (w.heap.size+1) w.heap.size
    (DY.mu _ _ (by simp[Gh.BL])) (by simpa using Tl) (DY.sz _ _ (by simp[Gh.BL])) QC
   exact this
end
end Go.Am
