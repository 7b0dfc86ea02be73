/- Lemmas -/
import Derived.Test.YtefjamneieebhaaGreatDoorS6
set_option linter.unusedVariables false
set_option linter.unusedSimpArgs false
section
namespace Go.Am
open Go
section
variable{C:FG}{γ0 γ γ':Gh}{w0 w w':World}{β:Nat->Nat}{σ σ':BD}{h h':Ad}{a:Act}{fid:FuncId}{ops:List Oper}
theorem FJ.wp{o:Oper}{K:Act->World->Prop}{Q:Exit->Act->World->Prop}(hs:FJ C γ0 w0 o a w σ' h')(hK:∀γ' β' a' w',CR C γ0 w0 γ' β' σ' h' a' w'->K a' w'):o.wp C.P a w K Q:=by
 obtain⟨γ',β',w',⟨v,he,hr⟩|⟨he,hr⟩⟩:=hs;·exact Ir he (hK _ _ _ _ hr)
 .exact eX he (hK _ _ _ _ hr)
theorem WC{P:Program}{op:BinOp}{t:TypeId}{p:Wg}(hp:OF P op t=some p):p.still=true:=by
 have Jk:∀neg u,RE P t neg u=some p->p.still=true:=by
  intro neg u h;unfold RE at h;split at h;·cases h;rfl
  .split at h
   .cases hf:NU P 20 t with
    |none=>rw[hf] at h;cases h
    |some k=>rw[hf] at h;cases h;rfl
   .cases h
  .split at h<;>cases h;rfl
  .cases h;rfl
  .cases h;rfl
  .cases h;rfl
  .cases h
 unfold OF at hp;split at hp;·cases hp;rfl
 .cases hp;rfl
 .split at hp;·exact Jk _ _ hp
  .exact Jk _ _ hp
  .cases hp
 .cases hp
theorem Mj{P:Program}{t:TypeId}{f off:Nat}{sh:Option Nat}(hf:HD P t f=some (off,sh))(b o:Nat):(Instr.fieldAt t (.pointer (some ⟨b,o,none⟩)) f).run P w= .ok (.pointer (some ⟨b,o+off,none⟩)) w:=by
 unfold HD at hf;split at hf
 .rename_i fs lA;split at hf
  .rename_i fd lB;split at hf;·rename_i n sh' h1 h2;cases hf;simp[Instr.fieldAt,run_underlying lA,lB,Instr.sureAddr,fieldPlace,Dp h1,Addr.add_lit]
   .cases hf
  .cases hf
 .cases hf
theorem UQ(hr:CR C γ0 w0 γ β σ h a w){s ver:Nat}{cs:List Aa}{ow:List Nat}(hs:DK C σ (.tmp s)=some (.box ver cs ow)):a.eval (.tmp s)= .pointer (some ⟨β s,0,none⟩):=by have h0:=QA hr s;rw[Gi hs] at h0;exact h0.1
theorem SM(hr:CR C γ0 w0 γ β σ h a w){x:Operand}{s k:Nat}(hs:DK C σ x=some (.EG s k)):a.eval x= .pointer (some ⟨β s,k,none⟩):=by obtain⟨t,h1,_⟩:=Fv hr hs;exact h1
theorem Xo{o:Oper}{t:TypeId}{v:Aa}{d:Nat}{r:Er}{run:IT->Ad->Option Jo}(hb:SC C fid t v d=some r)(FD:r.Mf C run (σ.drop r.news) h σ' h')
  (NT:∀n,C.kind fid d= .NT->v.cells.length=n->n≠0->FJ C γ0 w0 o a w ((σ.drop [d]).set d (.box 0 v.cells [])) h)
  (heap:v.cells.length≠0->FJ C γ0 w0 o a w (σ.put (some d) (.val (.ptr (some (h.length,0))))) (h++[.cells v.cells])):FJ C γ0 w0 o a w σ' h':=by
 unfold SC at hb;split at hb;·cases hb
 .rename_i n hn;split at hb;·cases hb
  .rename_i hn0;split at hb;·cases hb;obtain⟨h1,rfl,rfl⟩:=FD;rename_i hk;exact NT n hk h1 hn0
   .cases hb;obtain⟨h1,rfl,rfl⟩:=FD;exact heap (by omega)
theorem OK{d s k:Nat}{run:IT->Ad->Option Jo}(FD:(Er.pure [(d,.EG s k)]).Mf C run (σ.drop (Er.pure [(d,.EG s k)]).news) h σ' h'):σ'=σ.set d (.EG s k)/\h'=h:=by obtain⟨rfl,rfl⟩:=FD;exact⟨rfl,rfl⟩
theorem wJ{run:IT->Ad->Option Jo}(hS:ED C run){o:Oper}{r:Er}{K:Act->World->Prop}{Q:Exit->Act->World->Prop}(hc:Fq C fid ops σ o=some r)(FD:r.Mf C run (σ.drop r.news) h σ' h')(hr:CR C γ0 w0 γ β σ h a w)
  (hK:∀γ' β' a' w',CR C γ0 w0 γ' β' σ' h' a' w'->K a' w'):o.wp C.P a w K Q:=by
 by_cases hst:∃p args dst own dem,r= .op p args dst own dem/\p.still=true
 .obtain⟨p,args,dst,own,dem,rfl,gi⟩:=hst
  obtain⟨hS',rfl,rfl,rfl⟩:=qV hc gi hr
  obtain⟨v,hv,rfl,rfl⟩:=FD
  obtain⟨u,q1,q2⟩:=hS' v hv
  exact Ir q1 (hK _ _ _ _ (hr.put λ_ _=>q2))
 .have Wj:∀{p args dst},r= .op p args dst false none->p.still=false:=λ{p args dst} he=>by
   cases hp:p.still with
   |false=>rfl
   |true=>exact absurd ⟨p,args,dst,false,none,he,hp⟩ hst
  have GH:∀{p dst x},RF p dst x=some r->p.still=false:=λ{p dst x} he=>by
   obtain⟨args,_,e⟩:=Dy he
   exact Wj e
  unfold Fq at hc
  split at hc
  .rename_i x ho
   split at hc
   .rename_i d hd
    obtain⟨γ',Fu⟩:=QC hc FD hr
    exact Ir (w':=w) (v:=a.eval x) (by simp[execOp,ho]) (hK _ _ _ _ (by rw[hd];exact Fu))
   .cases hc
  .rename_i x ho
   split at hc
   .rename_i d hd
    obtain⟨γ',Fu⟩:=QC hc FD hr
    exact Ir (w':=w) (v:=a.eval x) (by simp[execOp,ho]) (hK _ _ _ _ (by rw[hd];exact Fu))
   .cases hc
  .rename_i c x y ho
   split at hc
   .rename_i d hcs hd
    obtain⟨γ',Fu⟩:=QC hc FD hr
    obtain⟨s,h1,_⟩:=Fv hr hcs
    have h1:a.eval c= .bool true:=h1
    exact Ir (w':=w) (v:=a.eval x) (by simp[execOp,ho,h1,asBool]) (hK _ _ _ _ (by rw[hd];exact Fu))
   .rename_i d hcs hd
    obtain⟨γ',Fu⟩:=QC hc FD hr
    obtain⟨s,h1,_⟩:=Fv hr hcs
    have h1:a.eval c= .bool false:=h1
    exact Ir (w':=w) (v:=a.eval y) (by simp[execOp,ho,h1,asBool]) (hK _ _ _ _ (by rw[hd];exact Fu))
   .cases GH hc
  .rename_i t ho
   split at hc
   .rename_i d z hd hz
    split at hc
    .split at hc
     .rename_i HG
      cases hc
      obtain⟨rfl,rfl⟩:=FD
      exact(UE ho hd hz HG.2 hr).wp hK
     .cases hc
    .rename_i hk
     refine(Xo (o:=o) (a:=a) (w:=w) (γ0:=γ0) (w0:=w0) hc FD (λn h0 h1 h2=>absurd h0 (by simpa using hk)) λh1=>UF ho hd hz h1 hr).wp hK
   .cases hc
  .rename_i t x ho
   split at hc
   .rename_i d v hd hv
    exact(Xo (o:=o) (a:=a) (w:=w) (γ0:=γ0) (w0:=w0) hc FD (λn _ h1 h2=>Yf ho hd hv h1 h2 hr) λh1=>Yg ho hd hv h1 hr).wp hK
   .cases hc
  .split at hc
   .split at hc
    .cases GH hc
    .cases hc
   .cases hc
  .rename_i t len parts ho
   split at hc
   .rename_i e ht
    split at hc
    .rename_i n hn
     split at hc
     .rename_i HG
      cases ha:Bq C σ (parts.toList.map (·.2)) with
      |none=>rw[ha] at hc;cases hc
      |some args=>
       rw[ha] at hc;cases hc
       obtain⟨v,hv,rfl,rfl⟩:=FD
       exact(vQ ho ht hn HG.1 HG.2 ha hv hr).wp hK
     .cases hc
    .cases hc
   .cases hc
  .rename_i t x ho
   split at hc
   .rename_i d hd
    by_cases hp:∃ws,r= .pure ws
    .exact(Wy ho hd hc hp FD hr).wp hK
    .unfold Kn at hc
     split at hc
     .rename_i n p ht hx
      cases hc
      obtain⟨v,hv,rfl,rfl⟩:=FD
      have hs:=vN ho ht hx hv hr
      rw[hd] at hs
      exact hs.wp hK
     .split at hc
      .simp only at hc
       split at hc<;>(cases hc;exact absurd ⟨_,rfl⟩ hp)
      .cases hc
     .split at hc
      .cases hc;exact absurd ⟨_,rfl⟩ hp
      .cases hc
     .cases hc
   .cases hc
  .rename_i t x y ho
   split at hc
   .rename_i hd
    have JU:=hc
    unfold IB at hc
    split at hc
    .rename_i n p v hsz hx hv
     cases hc
     obtain⟨aJx,rfl⟩:=FD
     exact(qW ho hd hsz hx hv aJx hr).wp hK
    .split at hc
     .cases hc
      exact(fK ho hd JU FD hr).wp hK
     .cases hc
    .cases hc
   .cases hc
  .rename_i x ho
   split at hc
   .rename_i s ver cs ow d hd hs
    cases hc
    obtain⟨rfl,rfl⟩:=OK FD
    have he:=UQ hr hs
    exact Ir (w':=w) (v:= .pointer (some ⟨β s,0,none⟩)) (by simp[execOp,ho,he]) (hK _ _ _ _ (by rw[hd];exact hr.put (d:=some d) λ_ _=>rfl))
   .rename_i s k d hd hs
    cases hc
    obtain⟨rfl,rfl⟩:=OK FD
    have he:=SM hr hs
    exact Ir (w':=w) (v:= .pointer (some ⟨β s,k,none⟩)) (by simp[execOp,ho,he]) (hK _ _ _ _ (by rw[hd];exact hr.put (d:=some d) λ_ _=>rfl))
   .cases GH hc
  .split at hc
   .rename_i p hp
    have gi:=GH hc
    rw[WC hp] at gi
    cases gi
   .cases hc
  .cases GH hc
  .rename_i src aJg x ho
   split at hc
   .rename_i hq
    unfold Us at hq
    cases hv:Es C σ x with
    |none=>rw[hv] at hc;cases hc
    |some v=>
     rw[hv] at hc;cases hc
     split at hq
     .cases hq
     .cases hq
     .cases hq
     .rename_i e hs hd
      split at hq
      .rename_i he
       obtain⟨v',u,h1,h2,rfl⟩:=FD
       exact(fx ho hs hd he hv h1 h2 hr).wp hK
      .cases hq
     .split at hq<;>cases hq
     .cases hq
   .rename_i hq
    unfold Us at hq
    split at hq
    .cases hq
    .cases hq
    .cases hq
    .split at hq<;>cases hq
    .rename_i e hs hd
     split at hq
     .rename_i he _ _
      split at hc
      .cases hv:Es C σ x with
       |none=>rw[hv] at hc;cases hc
       |some v=>
        rw[hv] at hc;cases hc
        obtain⟨u,h1,rfl⟩:=FD
        exact(Yk ho hs hd he hv h1 hr).wp hK
      .obtain⟨args,ha,rfl⟩:=Dy hc
       obtain⟨u,h1,rfl,rfl⟩:=FD
       obtain⟨v,rfl,_⟩:=FZ hr ha
       exact(fw ho hs hd he ha h1 hr).wp hK
     .cases hq
    .cases hq
   .rename_i p LV Rx hq
    have gi:=GH hc
    unfold Us at hq
    split at hq
    .cases hq;cases gi
    .cases hq;cases gi
    .cases hq
    .split at hq
     .cases hq;exact absurd rfl LV
     .cases hq
    .split at hq
     .cases hq;exact absurd rfl Rx
     .cases hq
    .cases hq
   .cases hc
  .rename_i fn first captured ho
   split at hc
   .rename_i d as bs fz hd ha hb
    cases hc
    obtain⟨rfl,rfl⟩:=FD
    exact(aF ho hd ha hb hr).wp hK
   .cases hc
  .rename_i t ho
   cases hc
   obtain⟨rfl,rfl⟩:=FD
   exact(vZ ho hr).wp hK
  .rename_i t l c ho
   split at hc
   .rename_i e ht
    split at hc
    .rename_i n b z vl vc hn hb hz hl WA
     cases hc
     obtain⟨v,h1,rfl⟩:=FD
     exact(vU ho ht hn hb hz hl WA h1 hr).wp hK
    .cases hc
   .cases hc
  .rename_i t m k x ho
   split at hc
   .rename_i kt e ht
    split at hc
    .rename_i vm vk vx hd hk ha
     cases hc
     obtain⟨h1,rfl⟩:=FD
     exact(aK (.inl ho) hd ht hk ha h1 hr).wp hK
    .cases hc
   .cases hc
  .rename_i t m k x ho
   split at hc
   .rename_i kt e ht
    split at hc
    .rename_i vm vk vx hd hk ha
     cases hc
     obtain⟨h1,rfl⟩:=FD
     exact(aK (.inr ho) hd ht hk ha h1 hr).wp hK
    .cases hc
   .cases hc
  .rename_i t m k ok ho
   split at hc
   .rename_i kt e ht
    split at hc
    .rename_i z vm vk hk hz ha
     cases hc
     obtain⟨v,h1,rfl,rfl⟩:=FD
     exact(v8 ho ht hk hz ha h1 hr).wp hK
    .rename_i z vm vk hk hz ha
     cases hc
     obtain⟨v,h1,rfl⟩:=FD
     exact(wI ho ht hk hz ha h1 hr).wp hK
    .cases hc
   .cases hc
  .rename_i t x lo hi mx ho
   split at hc
   .rename_i e ht
    split at hc
    .rename_i n hn
     obtain⟨args,ha,rfl⟩:=Ha hc
     obtain⟨v,h1,rfl⟩:=FD
     simp only[Ep] at h1
     split at h1
     .rename_i hch
      cases h1
      exact(wG ho ht hn ha hch hr).wp hK
     .cases h1
    .cases hc
   .cases hc
  .rename_i t x ho
   split at hc
   .cases hc
   .rename_i u hu ht
    obtain⟨args,ha,rfl⟩:=Ha hc
    obtain⟨v,h1,rfl⟩:=FD
    obtain⟨y,rfl,_⟩:=FZ hr ha
    cases h1
    exact(wH ho ht (λi e=>hu i e) ha hr).wp hK
   .cases hc
  .rename_i t m k ho
   split at hc
   .rename_i kt e ht
    split at hc
    .rename_i z hk hz
     obtain⟨args,ha,rfl⟩:=Ha hc
     obtain⟨v,h1,rfl⟩:=FD
     obtain⟨y1,y2,rfl,_,_⟩:=Fa hr ha
     exact(fU ho ht hk hz ha h1 hr).wp hK
    .cases hc
   .cases hc
  .rename_i t m s x ho
   split at hc
   .rename_i hd
    obtain⟨args,ha,rfl⟩:=Ha hc
    obtain⟨v,h1,rfl⟩:=FD
    obtain⟨y1,y2,y3,rfl⟩:∃y1 y2 y3,args=[y1,y2,y3]:=by
     have:=Dx hr ha
     cases args with
     |nil=>cases h1
     |cons y1 l1=>cases l1 with
      |nil=>cases h1
      |cons y2 l2=>cases l2 with
       |nil=>cases h1
       |cons y3 l3=>cases l3 with
        |nil=>exact⟨_,_,_,rfl⟩
        |cons _ _=>cases h1
    exact(fV ho hd ha h1 hr).wp hK
   .cases hc
  .rename_i t x lo hi ho
   split at hc
   .cases GH hc
   .rename_i e ht
    split at hc
    .rename_i n hn
     split at hc
     .obtain⟨args,ha,rfl⟩:=Ha hc
      obtain⟨v,h1,rfl⟩:=FD
      cases args with
      |nil=>cases h1
      |cons y l=>exact(wE ho ht hn ha h1 hr).wp hK
     .cases GH hc
    .cases hc
   .cases hc
  .rename_i t x f ho
   split at hc
   .rename_i off sh d hf hd
    split at hc
    .rename_i s ver cs ow hs
     cases hc
     obtain⟨rfl,rfl⟩:=OK FD
     have he:=UQ hr hs
     exact Ir (w':=w) (v:= .pointer (some ⟨β s,off,none⟩)) (by simp only[execOp,ho,he];exact El (by rw[Mj hf];simp)) (hK _ _ _ _ (by rw[hd];exact hr.put (d:=some d) λ_ _=>rfl))
    .rename_i s k hs
     cases hc
     obtain⟨rfl,rfl⟩:=OK FD
     have he:=SM hr hs
     exact Ir (w':=w) (v:= .pointer (some ⟨β s,k+off,none⟩)) (by simp only[execOp,ho,he];exact El (Mj hf _ _)) (hK _ _ _ _ (by rw[hd];exact hr.put (d:=some d) λ_ _=>rfl))
    .cases GH hc
   .cases hc
  .split at hc
   .cases GH hc
   .cases hc
  .split at hc
   .split at hc
    .cases GH hc
    .cases hc
   .split at hc
    .split at hc
     .cases hc
     .cases GH hc
    .cases hc
   .cases hc
  .split at hc
   .cases GH hc
   .split at hc
    .cases GH hc
    .cases hc
   .cases hc
  .cases GH hc
  .rename_i c ho
   unfold PM at hc
   split at hc
   .split at hc
    .split at hc
     .cases GH hc
     .cases GH hc
     .cases hc
    .cases hc
   .rename_i hcl
    split at hc
    .rename_i t t' s x h0 h1 Ed
     split at hc
     all_goals first
      |(cases hc;done)
      | (rename_i e _ ht FH
         split at hc
         . rename_i n b hn hb
           split at hc
           . rename_i eH
             split at hc
             . rename_i v u ha
               split at hc
               . rename_i E0
                 split at hc
                 . cases hc
                   obtain ⟨r', h3, rfl⟩ := FD
                   exact (q7 ho hcl h0 h1 Ed ht (by first | exact .inl ⟨_, FH⟩ | exact .inr FH) hn hb E0 eH ha h3 hr).wp hK
                 . split at hc
                   . cases hc
                     obtain ⟨r', h3, rfl, rfl⟩ := FD
                     exact (aH ho hcl h0 h1 Ed ht (by first | exact .inl ⟨_, FH⟩ | exact .inr FH) hn hb E0 eH ha h3 hr).wp hK
                   . cases hc
                     obtain ⟨r', h3, rfl, rfl⟩ := FD
                     exact (fO ho hcl h0 h1 Ed ht (by first | exact .inl ⟨_, FH⟩ | exact .inr FH) hn hb E0 eH ha h3 hr).wp hK
               . split at hc
                 . cases hc
                   obtain ⟨r', h3, rfl⟩ := FD
                   exact (wB ho hcl h0 h1 Ed ht (by first | exact .inl ⟨_, FH⟩ | exact .inr FH) hn hb eH ha h3 hr).wp hK
                 . cases hc
             . cases hc
           . cases hc
         . cases hc)
    .cases hc
   .rename_i hcl
    split at hc
    .rename_i t t' s x h0 h1 Ed
     split at hc
     all_goals first
      |(cases hc;done)
      | (rename_i e _ ht FH
         split at hc
         . rename_i n hn
           obtain ⟨args, ha, rfl⟩ := Ha hc
           obtain ⟨v, h3, rfl⟩ := FD
           obtain ⟨y1, y2, rfl, _, _⟩ := Fa hr ha
           exact (wD ho hcl h0 h1 Ed ht (by first | exact .inl ⟨_, FH⟩ | exact .inr FH) hn ha h3 hr).wp hK
         . cases hc)
    .cases hc
   .rename_i hcl
    split at hc
    .rename_i t s h0 Ed
     split at hc
     .rename_i e ht
      split at hc
      .rename_i n z hn hz
       obtain⟨args,ha,rfl⟩:=Ha hc
       obtain⟨v,h3,rfl⟩:=FD
       obtain⟨y1,rfl,_⟩:=FZ hr ha
       exact(rA ho hcl h0 Ed ht hn hz ha h3 hr).wp hK
      .cases hc
     .cases hc
    .cases hc
   .split at hc
    .cases GH hc
    .cases hc
   .split at hc
    .cases GH hc
    .cases hc
   .rename_i f hcl
    split at hc
    .rename_i hf
     split at hc
     .rename_i s i x Ed
      split at hc
      .rename_i E0
       obtain⟨args,ha,rfl⟩:=Ha hc
       obtain⟨v,h3,rfl⟩:=FD
       exact fy hS ho hcl hf Ed E0 ha h3 hr λγ' v w' Fu=>hK _ _ _ _ Fu
      .cases hc
     .cases hc
    split at hc
    rotate_left
    .cases hc
    rename_i Wi
    rw[<-Wi] at hcl
    cases ha:Bq C σ c.args.toList with
    |none=>rw[ha] at hc;cases hc
    |some args=>
     rw[ha] at hc
     simp only[BR,BA] at hc
     split at hc
     .cases hc
      obtain⟨GG,rv,h1,h2,h3,rfl,rfl⟩:=FD
      exact qZ hS ho hcl ha GG h2 h3 hr λγ' v w' Fu=>hK _ _ _ _ Fu
     .cases hc
      obtain⟨rv,h1,rfl⟩:=FD
      exact vW hS ho hcl ha h1 hr λγ' v w' Fu=>hK _ _ _ _ Fu
   .rename_i g hn hcl
    split at hc
    .rename_i gv args hg ha
     cases hc
     obtain⟨f,args',rv,h0,h1,rfl⟩:=FD
     exact q6 hS ho hcl hg ha h0 h1 hr λγ' v w' Fu=>hK _ _ _ _ Fu
    .cases hc
   .cases hc
  .cases hc
end
end Go.Am
end
section
namespace Go.Am
open Go
section
variable{C:FG}{σ τ:BD}{fid:FuncId}{ops:List Oper}
theorem Ym{x:Operand}(h:∀t,x= .tmp t->τ.at t=σ.at t):DK C τ x=DK C σ x:=by
 cases x with
 |tmp t=>simp only[DK,h t rfl]
 |const v=>
  cases v with
  |slice a b c=>cases a<;>cases b<;>cases c<;>rfl
  |_=>rfl
 |global g=>rfl
 |func f=>rfl
def TY(C:FG)(σ τ:BD)(xs:List Operand):Prop:=∀x∈xs,DK C τ x=DK C σ x
theorem TY.lH{xs:List Operand}(h:∀t∈Jy xs,τ.at t=σ.at t):TY C σ τ xs:=λx hx=>Ym λt ht=>h t (by subst ht;exact Ch.2 ⟨_,hx,rfl⟩)
theorem TY.val{xs:List Operand}(h:TY C σ τ xs){x:Operand}(hx:x∈xs):Es C τ x=Es C σ x:=by unfold Es;rw[h x hx]
theorem TY.JD{xs:List Operand}(h:TY C σ τ xs):∀{ys:List Operand},(∀y∈ys,y∈xs)->Bq C τ ys=Bq C σ ys
 |[],_=>rfl
 |y::ys,hy=>by unfold Bq;rw[h.val (hy y (by simp)),h.JD λz hz=>hy z (by simp[hz])]
theorem TY.move{xs:List Operand}(h:TY C σ τ xs){x:Operand}(hx:x∈xs)(d:Nat)(take:Bool):Jw C τ x d take=Jw C σ x d take:=by unfold Jw;rw[h x hx]
theorem TY.own{xs:List Operand}(h:TY C σ τ xs){x:Operand}(hx:x∈xs):J1 C τ x=J1 C σ x:=by unfold J1;rw[h x hx]
theorem TY.Dm{xs:List Operand}(h:TY C σ τ xs){x:Operand}(hx:x∈xs):CY τ x=CY σ x:=by
 cases x with
 |tmp t=>have:=h _ hx;simp only[DK,BA] at this;simp only[CY,this]
 |_=>rfl
theorem TY.Gs{xs:List Operand}(h:TY C σ τ xs):∀{ys:List Operand},(∀y∈ys,y∈xs)->Am.Gs C τ ys=Am.Gs C σ ys
 |[],_=>rfl
 |y::ys,hy=>by unfold Am.Gs;rw[h y (hy y (by simp)),h.Gs λz hz=>hy z (by simp[hz])]
theorem TY.addr{xs:List Operand}(h:TY C σ τ xs){x:Operand}(hx:x∈xs)(hb:∀s∈(MM C σ x).toList,τ.at s=σ.at s)(hn:Fp C σ x≠none):Fp C τ x=Fp C σ x:=by
 have MH:=h x hx;cases hs:DK C σ x with
 |none=>unfold Fp at hn;rw[hs] at hn;exact absurd (by split<;>simp_all) hn
 |some sl=>
  rw[hs] at MH;cases sl with
  |EG s o=>
   have h1:∀ρ:BD,DK C ρ x=some (.EG s o)->Fp C ρ x=match ρ.at s with| .box ver cs ow=>some (.NT s o ver cs ow)|_=>none:=λρ hρ=>by unfold Fp;rw[hρ];cases x<;>rfl
   rw[h1 σ hs] at hn⊢;rw[h1 τ MH];have h2:s∈(MM C σ x).toList:=by
    unfold MM;rw[h1 σ hs];cases Qq:σ.at s with
    |box ver cs ow=>simp
    |_=>rw[Qq] at hn;exact absurd rfl hn
   rw[hb s h2]
  |_=>unfold Fp;rw[hs,MH];cases x<;>rfl
theorem TY.load{xs:List Operand}(h:TY C σ τ xs){x:Operand}(hx:x∈xs)(hb:∀s∈(MM C σ x).toList,τ.at s=σ.at s){t:TypeId}{d:Nat}{take:Bool}{r:Er}(hc:Kn C σ t x d take=some r):Kn C τ t x d take=some r:=by
 have hn:Fp C σ x≠none:=λhe=>by unfold Kn at hc;rw[he] at hc;split at hc<;>simp_all
 unfold Kn at hc⊢;rw[h.addr hx hb hn];exact hc
theorem TY.store{xs:List Operand}(h:TY C σ τ xs){x y:Operand}(hx:x∈xs)(hy:y∈xs)(hb:∀s∈(MM C σ x).toList,τ.at s=σ.at s){t:TypeId}{r:Er}(hc:IB C σ t x y=some r):IB C τ t x y=some r:=by
 have hn:Fp C σ x≠none:=λhe=>by unfold IB at hc;rw[he] at hc;split at hc<;>simp_all
 unfold IB at hc⊢;rw[h.addr hx hb hn,h.val hy,h.own hy,h.Dm hy];exact hc
theorem TY.call{c:Call}(h:TY C σ τ c.operands.toList)(dst:Option Nat):PM C fid τ c dst=PM C fid σ c dst:=by
 have ha:∀y∈c.args.toList,y∈c.operands.toList:=λy hy=>by unfold Call.operands;rw[Jt];exact BU _ hy
 have hv:Bq C τ c.args.toList=Bq C σ c.args.toList:=h.JD ha;unfold PM;split;·rw[hv]
 .split
  .rename_i Ed;have h1:∀{s x:Operand},c.args.toList=[s,x]->J1 C τ s=J1 C σ s/\CY τ s=CY σ s/\Bq C τ [s,x]=Bq C σ [s,x]:=λ{s x} he=>by rw[he] at ha;exact⟨h.own (ha s (by simp)),h.Dm (ha s (by simp)),h.JD λy hy=>ha y hy⟩
   obtain⟨e1,e2,e3⟩:=h1 Ed;rw[e1,e2,e3]
  .rfl
 .split;·rename_i Ed;rw[Ed] at ha;rw[h.JD λy hy=>ha y hy]
  .rfl
 .split;·rename_i Ed;rw[Ed] at ha;rw[h.JD λy hy=>ha y hy]
  .rfl
 .rw[hv]
 .rw[hv]
 .split
  .split;·rename_i s i v Ed;rw[Ed] at ha;rw[h.own (ha v (by simp)),h.JD λy hy=>ha y hy]
   .rfl
  .rw[hv]
 .rename_i g _ hcl;have hg:g∈c.operands.toList:=by unfold Call.operands;rw[hcl];simp
  rw[hv,h.val hg]
 .rfl
theorem UR{o:Oper}{r:Er}(hc:Fq C fid ops σ o=some r)(ht:∀t∈Jy o.op.operands.toList,τ.at t=σ.at t)(hb:∀s∈GZ C σ o,τ.at s=σ.at s):Fq C fid ops τ o=some r:=by
 have h:TY C σ τ o.op.operands.toList:= .lH ht
 unfold Fq at hc⊢
 cases ho:o.op with
 |move x=>
  rw[ho] at h
  simp only[ho] at hc⊢
  have:=λd=>h.move (x:=x) (by simp[Op.operands]) d
  simpa only[this] using hc
 |assign x=>
  rw[ho] at h
  simp only[ho] at hc⊢
  have:=λd=>h.move (x:=x) (by simp[Op.operands]) d
  simpa only[this] using hc
 |pick c a b=>
  rw[ho] at h
  simp only[ho] at hc⊢
  have h1:=λd=>h.move (x:=a) (by simp[Op.operands]) d
  have h2:=λd=>h.move (x:=b) (by simp[Op.operands]) d
  rw[h c (by simp[Op.operands]),h.JD (ys:=[c,a,b]) (by simp[Op.operands])]
  simpa only[h1,h2] using hc
 |alloc t=>rw[ho] at hc;exact hc
 |box t x=>
  rw[ho] at h
  simp only[ho] at hc⊢
  rw[h.val (x:=x) (by simp[Op.operands])]
  exact hc
 |build t parts=>
  rw[ho] at h
  simp only[ho] at hc⊢
  rw[h.JD (ys:=parts.toList.map (·.2)) (by simp[Op.operands])]
  exact hc
 |buildSlice t len parts=>
  rw[ho] at h
  simp only[ho] at hc⊢
  rw[h.JD (ys:=parts.toList.map (·.2)) (by simp[Op.operands])]
  exact hc
 |load t x=>
  rw[ho] at h
  simp only[ho] at hc⊢
  split at hc
  .exact h.load (by simp[Op.operands]) (λs hs=>hb s (by simpa only[GZ,ho] using hs)) hc
  .cases hc
 |store t x y=>
  rw[ho] at h
  simp only[ho] at hc⊢
  split at hc
  .exact h.store (by simp[Op.operands]) (by simp[Op.operands]) (λs hs=>hb s (by simpa only[GZ,ho] using hs)) hc
  .cases hc
 |nilCheck x=>
  rw[ho] at h
  simp only[ho] at hc⊢
  have e2:=h.JD (ys:=[x]) (by simp[Op.operands])
  rw[h x (by simp[Op.operands])]
  cases hs:DK C σ x with
  |none=>rw[hs] at hc;cases x<;>cases hd:o.dst<;>rw[hd] at hc<;>first|exact hc|(show RF _ _ (Bq C τ [_])=some r;rw[e2];exact hc)
  |some sl=>rw[hs] at hc;cases sl<;>cases x<;>cases hd:o.dst<;>rw[hd] at hc<;>first|exact hc|(show RF _ _ (Bq C τ [_])=some r;rw[e2];exact hc)
 |binOp op t x y k=>
  rw[ho] at h
  simp only[ho] at hc⊢
  rw[h.JD (ys:=[x,y]) (by simp[Op.operands])]
  exact hc
 |unOp op t x=>
  rw[ho] at h
  simp only[ho] at hc⊢
  rw[h.JD (ys:=[x]) (by simp[Op.operands])]
  exact hc
 |convert src dst x=>
  rw[ho] at h
  simp only[ho] at hc⊢
  rw[h.JD (ys:=[x]) (by simp[Op.operands]),h.val (x:=x) (by simp[Op.operands])]
  exact hc
 |makeFunc fn first captured=>
  rw[ho] at h
  simp only[ho] at hc⊢
  rw[h.JD (ys:=first.toList) (λ_ hm=>by simp[Op.operands,hm]),h.Gs (ys:=captured.toList) (λ_ hm=>by simp[Op.operands,hm])]
  exact hc
 |makeMap t r'=>
  rw[ho] at hc
  cases r' with
  |none=>exact hc
  |some _=>cases hc
 |makeSlice t l c=>
  rw[ho] at h
  simp only[ho] at hc⊢
  rw[h.val (x:=l) (by simp[Op.operands]),h.val (x:=c) (by simp[Op.operands])]
  exact hc
 |insert t m k v=>
  rw[ho] at h
  simp only[ho] at hc⊢
  rw[h.JD (ys:=[m,k,v]) (by simp[Op.operands])]
  exact hc
 |mapUpdate t m k v=>
  rw[ho] at h
  simp only[ho] at hc⊢
  rw[h.JD (ys:=[m,k,v]) (by simp[Op.operands])]
  exact hc
 |lookup t m k ok=>
  rw[ho] at h
  simp only[ho] at hc⊢
  rw[h.JD (ys:=[m,k]) (by simp[Op.operands])]
  exact hc
 |slice t x lo hi mx=>
  rw[ho] at h hc
  cases mx with
  |none=>
   have e2:=h.JD (ys:=x::(lo.toList++hi.toList)) (by cases lo<;>cases hi<;>simp[Op.operands])
   simp only at hc⊢
   rw[e2]
   exact hc
  |some mx=>cases lo with
   |none=>cases hc
   |some lo=>cases hi with
    |none=>cases hc
    |some hi=>
     have e2:=h.JD (ys:=[x,lo,hi,mx]) (by simp[Op.operands])
     simp only at hc⊢
     rw[e2]
     exact hc
 |makeInterface t x=>
  rw[ho] at h
  simp only[ho] at hc⊢
  rw[h.JD (ys:=[x]) (by simp[Op.operands])]
  exact hc
 |mapEntry t m k=>
  rw[ho] at h
  simp only[ho] at hc⊢
  rw[h.JD (ys:=[m,k]) (by simp[Op.operands])]
  exact hc
 |entryStore t m s v=>
  rw[ho] at h
  simp only[ho] at hc⊢
  rw[h.JD (ys:=[m,s,v]) (by simp[Op.operands])]
  exact hc
 |fieldAddr t x f=>
  rw[ho] at h
  simp only[ho] at hc⊢
  have e2:=h.JD (ys:=[x]) (by simp[Op.operands])
  rw[h x (by simp[Op.operands])]
  cases hf:HD C.P t f with
  |none=>rw[hf] at hc;cases hc
  |some q=>
   rw[hf] at hc
   cases hd:o.dst with
   |none=>rw[hd] at hc;cases hc
   |some d=>
    rw[hd] at hc
    cases hs:DK C σ x with
    |none=>rw[hs] at hc;cases x<;>first|exact hc|(show RF _ _ (Bq C τ [_])=some r;rw[e2];exact hc)
    |some sl=>rw[hs] at hc;cases sl<;>cases x<;>first|exact hc|(show RF _ _ (Bq C τ [_])=some r;rw[e2];exact hc)
 |field t x f=>
  rw[ho] at h
  simp only[ho] at hc⊢
  rw[h.JD (ys:=[x]) (by simp[Op.operands])]
  exact hc
 |indexAddr t x i=>
  rw[ho] at h
  simp only[ho] at hc⊢
  rw[h.JD (ys:=[x,i]) (by simp[Op.operands])]
  exact hc
 |index t x i=>
  rw[ho] at h
  simp only[ho] at hc⊢
  rw[h.JD (ys:=[x,i]) (by simp[Op.operands])]
  exact hc
 |extract x i=>
  rw[ho] at h
  simp only[ho] at hc⊢
  rw[h.JD (ys:=[x]) (by simp[Op.operands])]
  exact hc
 |call c=>
  rw[ho] at h
  simp only[ho] at hc⊢
  rw[h.call]
  exact hc
 |_=>simp only[ho] at hc;cases hc
end
end Go.Am
end
section
namespace Go.Am
open Go
mutual
theorem Aa.US:∀{a b:Aa},Aa.beq a b=true->a=b
 | .bool a,b,h=>by cases b<;>simp[Aa.beq] at h⊢;exact h
 | .int k a,b,h=>by cases b<;>simp[Aa.beq] at h⊢;exact h
 | .str a,b,h=>by cases b<;>simp[Aa.beq] at h⊢;exact h
 | .ptr a,b,h=>by cases b<;>simp[Aa.beq] at h⊢;exact h
 | .CA a,b,h=>by cases b<;>simp[Aa.beq] at h⊢;exact Aa.MY h
 | .sl n a,b,h=>by cases b<;>simp[Aa.beq] at h⊢;exact⟨h.1,Aa.aR h.2⟩
 | .slnil,b,h=>by cases b<;>simp[Aa.beq] at h⊢
 | .Cl a c d e,b,h=>by cases b<;>simp[Aa.beq] at h⊢;exact⟨h.1.1.1,h.1.1.2,h.1.2,h.2⟩
 | .map a,b,h=>by cases b<;>simp[Aa.beq] at h⊢;exact h
 | .func f a c,b,h=>by cases b<;>simp[Aa.beq] at h⊢;exact⟨h.1.1,Aa.MY h.1.2,Aa.MY h.2⟩
 | .nilFunc,b,h=>by cases b<;>simp[Aa.beq] at h⊢
 | .iface t a,b,h=>by cases b<;>simp[Aa.beq] at h⊢;exact⟨h.1,Aa.US h.2⟩
 | .nilIface,b,h=>by cases b<;>simp[Aa.beq] at h⊢
 | .agg a,b,h=>by cases b<;>simp[Aa.beq] at h⊢;exact Aa.MY h
 | .tuple a,b,h=>by cases b<;>simp[Aa.beq] at h⊢;exact Aa.MY h
theorem Aa.MY:∀{a b:List Aa},Aa.Qs a b=true->a=b
 |[],b,h=>by cases b<;>simp[Aa.Qs] at h⊢
 |a::x,b,h=>by
  cases b with
  |nil=>simp[Aa.Qs] at h
  |cons c y=>simp[Aa.Qs] at h⊢;exact⟨Aa.US h.1,Aa.MY h.2⟩
theorem Aa.aR:∀{a b:List (List Aa)},Aa.Qt a b=true->a=b
 |[],b,h=>by cases b<;>simp[Aa.Qt] at h⊢
 |a::x,b,h=>by
  cases b with
  |nil=>simp[Aa.Qt] at h
  |cons c y=>simp[Aa.Qt] at h⊢;exact⟨Aa.MY h.1,Aa.aR h.2⟩
end
theorem BD.IU(σ:BD):∀(a b:List (Nat×D5)),σ.Eb (a++b)=(σ.Eb a).Eb b
 |[],_=>rfl
 |(s,x)::a,b=>BD.IU (σ.set s x) a b
theorem BD.IV:∀(ws:List (Nat×D5)) (σ:BD),(σ.Eb ws).length=σ.length
 |[],_=>rfl
 |(s,x)::ws,σ=>by rw[BD.Eb,BD.IV ws];simp
theorem BD.UT(σ:BD)(s t:Nat)(x:D5):BD.at (σ.set s x) t=if s=t/\t<σ.length then x else σ.at t:=by
 by_cases h:s=t
 .subst h;by_cases hl:s<σ.length;·simp[BD.at,List.getD,hl]
  .simp[BD.at,List.getD,hl]
 .simp[BD.at,List.getD,Aj h,h]
theorem BD.F0:∀(ws:List (Nat×D5)) (σ:BD) (t:Nat),(∀p∈ws,p.1≠t)->(σ.Eb ws).at t=σ.at t
 |[],_,_,_=>rfl
 |(s,x)::ws,σ,t,h=>by rw[BD.Eb,BD.F0 ws _ t λp hp=>h p (by simp[hp]),BD.UT,if_neg];exact λe=>h (s,x) (by simp) e.1
theorem BD.UU:∀(ws:List (Nat×D5)) (σ:BD) (t:Nat),(σ.Eb ws).at t=σ.at t\/∃p∈ws,p.1=t/\(σ.Eb ws).at t=p.2
 |[],_,_=> .inl rfl
 |(s,x)::ws,σ,t=>by
  rcases BD.UU ws (σ.set s x) t with h|⟨p,hp,h1,h2⟩
  .rw[BD.UT] at h;by_cases hc:s=t/\t<σ.length;·rw[if_pos hc] at h;exact .inr ⟨(s,x),by simp,hc.1,h⟩
   .rw[if_neg hc] at h;exact .inl h
  .exact .inr ⟨p,by simp[hp],h1,h2⟩
theorem BD.Is:∀(ws:List (Nat×D5)) (σ τ:BD) (t:Nat),τ.length=σ.length->τ.at t=σ.at t->(τ.Eb ws).at t=(σ.Eb ws).at t
 |[],_,_,_,_,h=>h
 |(s,x)::ws,σ,τ,t,hl,h=>by refine BD.Is ws _ _ t (by simpa using hl) ?_;rw[BD.UT,BD.UT,hl,h]
theorem BD.ext{σ τ:BD}(hl:τ.length=σ.length)(h:∀t,τ.at t=σ.at t):τ=σ:=by apply List.ext_getElem hl;intro i h1 h2;have:=h i;simpa[BD.at,List.getD,h1,h2] using this
theorem BD.rC{σ:BD}{a b:List (Nat×D5)}(h:∀p∈a,∀q∈b,p.1≠q.1):(σ.Eb a).Eb b=(σ.Eb b).Eb a:=by
 refine BD.ext (by simp[BD.IV]) λt=>?_;by_cases ha:∀p∈a,p.1≠t;·rw[BD.F0 a (σ.Eb b) t ha];exact BD.Is b _ _ t (by simp[BD.IV]) (BD.F0 a σ t ha)
 .have⟨p,hp,hpt⟩:∃p∈a,p.1=t:=Classical.byContradiction λhn=>ha λp hp e=>hn ⟨p,hp,e⟩;have hb:∀q∈b,q.1≠t:=λq hq e=>h p hp q hq (by rw[hpt,e]);rw[BD.F0 b (σ.Eb a) t hb];exact(BD.Is a _ _ t (by simp[BD.IV]) (BD.F0 b σ t hb)).symm
theorem MZ{σ:BD}{ds:List Nat}:LP σ ds=true↔∀x t o,σ.at x= .EG t o->t∉ds:=by
 unfold LP;rw[EI];constructor
 .intro h x t o hx;by_cases hl:x<σ.length;·have:=h (σ.at x) (by simp[BD.at,List.getD,hl]);rw[hx] at this;simpa using this
  .simp[BD.at,List.getD,hl] at hx
 .intro h s hs;obtain⟨i,hi⟩:=CS hs;cases s with
  |EG t o=>have:=h i t o (by simp[BD.at,List.getD,hi]);simpa using this
  |_=>rfl
theorem rD{a b:List Nat}:SD a b=true↔∃x,x∈a/\x∈b:=by simp[SD]
structure St where
 idx:Nat
 fp:FP
 fl:Option Jp
def JV(i:Nat)(r:Er)(σ:BD):Option Jp:=
 match r with
 | .load n p (some d)=>match σ.at d with
  | .val v=>some {idx:=i,n,p,v}
  |_=>none
 |_=>none
theorem UW(i:Nat)(r:Er)(σ:BD)(fl:List Jp):Lw i r σ fl=(JV i r σ).toList++fl:=by
 cases r with
 |load n p dst=>
  cases dst with
  |none=>rfl
  |some d=>simp only[Lw,JV];cases σ.at d<;>rfl
 |_=>rfl
theorem WD{i:Nat}{r:Er}{σ τ:BD}(h:∀d∈r.wf,τ.at d=σ.at d):JV i r τ=JV i r σ:=by
 cases r with
 |load n p dst=>
  cases dst with
  |none=>rfl
  |some d=>simp only[JV];rw[h d (by simp[Er.wf])]
 |_=>rfl
def LB(d:Option Nat)(σ σ':BD):Prop:=
 match d with
 |none=>σ'=σ
 |some d=>match σ.at d with
  | .val v=>∃b,v= .bool b/\σ'=σ.set d (.NC b)
  |_=>σ'=σ
section
variable{C:FG}{fid:FuncId}{ops:List Oper}{run:IT->Ad->Option Jo}{σ τ σ':BD}{h h':Ad}
def N4(C:FG)(fid:FuncId)(ops:List Oper)(run:IT->Ad->Option Jo)(s:St)(σ:BD)(h:Ad)(σ':BD)(h':Ad):Prop:=
 ∃o,ops[s.idx]?=some o/\
  ((HU ops σ o = .Mc false /\ s.fp = Tk C ops σ o none /\ s.fl = none /\ σ' = σ.put o.dst .skip /\ h' = h) \/
   ∃ r σ1, HU ops σ o = .Mc true /\ Fq C fid ops σ o = some r /\ s.fp = Tk C ops σ o (some r) /\ r.Mf C run (σ.drop r.news) h σ1 h' /\ s.fl = JV s.idx r σ1 /\
     LB (if Qx ops s.idx then o.dst else none) σ1 σ')
theorem UX(σ:BD)(d:Option Nat)(x:D5):σ.put d x=σ.Eb (d.toList.map λs=>(s,x)):=by cases d<;>rfl
theorem rE(σ:BD)(d:Option (Nat×Aa)):σ.Dm d=σ.Eb (d.toList.map λp=>(p.1,.val p.2)):=by cases d<;>rfl
theorem Xp{r:Er}(hd:r.Mf C run σ h σ' h'):∃ws,σ'=σ.Eb ws/\(∀p∈ws,p.1∈r.wf)/\(∀p∈ws,∀t o,p.2= .EG t o->t∈r.kW)/\∀τ,r.Mf C run τ h (τ.Eb ws) h':=by
 have one:∀(d:Option Nat) (x:D5),(∀t o,x≠ .EG t o)->σ'=σ.put d x->d.toList⊆r.wf->(∀τ,r.Mf C run τ h (τ.put d x) h')->
   ∃ws,σ'=σ.Eb ws/\(∀p∈ws,p.1∈r.wf)/\(∀p∈ws,∀t o,p.2= .EG t o->t∈r.kW)/\∀τ,r.Mf C run τ h (τ.Eb ws) h':=by
  intro d x hx he hw ht;refine⟨d.toList.map λs=>(s,x),by rw[<-UX];exact he,λp hp=>?_,λp hp t o hl=>?_,λτ=>by rw[<-UX];exact ht τ⟩;·obtain⟨s,hs,rfl⟩:=Bk.1 hp;exact hw hs
  .obtain⟨s,hs,rfl⟩:=Bk.1 hp;exact absurd hl (hx t o)
 have Z6:∀(dem:Option (Nat×Aa)) (d:Option Nat) (x:D5),(∀t o,x≠ .EG t o)->σ'=(σ.Dm dem).put d x->d.toList⊆r.wf->(dem.map (·.1)).toList⊆r.wf->(∀τ,r.Mf C run τ h ((τ.Dm dem).put d x) h')->
   ∃ws,σ'=σ.Eb ws/\(∀p∈ws,p.1∈r.wf)/\(∀p∈ws,∀t o,p.2= .EG t o->t∈r.kW)/\∀τ,r.Mf C run τ h (τ.Eb ws) h':=by
  intro dem d x hx he hw wK ht;have e:∀τ:BD,(τ.Dm dem).put d x=τ.Eb ((dem.toList.map λp=>(p.1,.val p.2))++d.toList.map λs=>(s,x)):=λτ=>by rw[BD.IU,<-rE,<-UX]
  refine⟨_,by rw[he,e],λp hp=>?_,λp hp t o hl=>?_,λτ=>by rw[<-e];exact ht τ⟩
  .rcases Ao.1 hp with hp|hp
   .obtain⟨q,hq,rfl⟩:=Bk.1 hp;exact wK (by cases dem<;>simp_all)
   .obtain⟨s,hs,rfl⟩:=Bk.1 hp;exact hw hs
  .rcases Ao.1 hp with hp|hp
   .obtain⟨q,hq,rfl⟩:=Bk.1 hp;cases hl
   .obtain⟨s,hs,rfl⟩:=Bk.1 hp;exact absurd hl (hx t o)
 cases r with
 |pure ws=>obtain⟨rfl,rfl⟩:=hd;refine⟨ws,rfl,λp hp=>Bk.2 ⟨p,hp,rfl⟩,λp hp t o hl=>?_,λτ=>⟨rfl,rfl⟩⟩;exact Ch.2 ⟨p.2,Bk.2 ⟨p,hp,rfl⟩,by rw[hl]⟩
 |op p args dst own dem=>obtain⟨v,hv,rfl,rfl⟩:=hd;exact Z6 dem dst _ (by cases own<;>simp) rfl (by simp[Er.wf]) (by simp[Er.wf]) λτ=>⟨v,hv,rfl,rfl⟩
 |box n v d=>obtain⟨hn,rfl,rfl⟩:=hd;exact one (some d) _ (by simp) rfl (by simp[Er.wf]) λτ=>⟨hn,rfl,rfl⟩
 |KC fn x b fz d=>
  obtain⟨rfl,rfl⟩:=hd;refine⟨(fz.map λ(s,cs)=>(s,.val (.CA cs)))++[(d,.val (.func fn x b))],by rw[BD.IU];rfl,λp hp=>?_,λp hp t o hl=>?_,λτ=>⟨by rw[BD.IU];rfl,rfl⟩⟩
  .rcases Ao.1 hp with hp|hp
   .obtain⟨q,hq,rfl⟩:=Bk.1 hp;exact List.mem_cons_of_mem _ (Bk.2 ⟨q,hq,rfl⟩)
   .simp at hp;subst hp;simp[Er.wf]
  .rcases Ao.1 hp with hp|hp
   .obtain⟨q,hq,rfl⟩:=Bk.1 hp;cases hl
   .simp at hp;subst hp;cases hl
 |LO s off n v own dem ver cells owned=>obtain⟨hn,rfl,rfl⟩:=hd;exact Z6 dem (some s) _ (by simp) rfl (by simp[Er.wf]) (by simp[Er.wf]) λτ=>⟨hn,rfl,rfl⟩
 |load n p dst=>obtain⟨v,hv,rfl,rfl⟩:=hd;exact one dst _ (by simp) rfl (by simp[Er.wf]) λτ=>⟨v,hv,rfl,rfl⟩
 |store n p v=>obtain⟨hv,rfl⟩:=hd;exact one none .undef (by simp) rfl (by simp) λτ=>⟨hv,rfl⟩
 |alloc n v dst=>obtain⟨hn,rfl,rfl⟩:=hd;exact one dst _ (by simp) rfl (by simp[Er.wf]) λτ=>⟨hn,rfl,rfl⟩
 |call f args dst=>obtain⟨v,hv,rfl⟩:=hd;exact one dst _ (by intro t o;split<;>simp) rfl (by simp[Er.wf]) λτ=>⟨v,hv,rfl⟩
 |FF g args dst=>obtain⟨f,x,v,h1,h2,rfl⟩:=hd;exact one dst _ (by simp) rfl (by simp[Er.wf]) λτ=>⟨f,x,v,h1,h2,rfl⟩
 |Bc f args dst=>obtain⟨GG,v,h1,h2,h3,rfl,rfl⟩:=hd;exact one dst _ (by simp) rfl (by simp[Er.wf]) λτ=>⟨GG,v,h1,h2,h3,rfl,rfl⟩
 |O7 dst=>obtain⟨rfl,rfl⟩:=hd;exact one dst _ (by simp) rfl (by simp[Er.wf]) λτ=>⟨rfl,rfl⟩
 |J0 m k v=>obtain⟨hv,rfl⟩:=hd;exact one none .undef (by simp) rfl (by simp) λτ=>⟨hv,rfl⟩
 |Mb z ok m k dst=>obtain⟨v,hv,rfl,rfl⟩:=hd;exact one dst _ (by simp) rfl (by simp[Er.wf]) λτ=>⟨v,hv,rfl,rfl⟩
 |make z b zero l c dst=>obtain⟨v,hv,rfl⟩:=hd;exact one dst _ (by simp) rfl (by simp[Er.wf]) λτ=>⟨v,hv,rfl⟩
 |HC z b s x dst dem=>obtain⟨v,hv,rfl⟩:=hd;exact Z6 dem dst _ (by simp) rfl (by simp[Er.wf]) (by simp[Er.wf]) λτ=>⟨v,hv,rfl⟩
 |FE z b s x dst=>obtain⟨v,hv,rfl⟩:=hd;exact one dst _ (by simp) rfl (by simp[Er.wf]) λτ=>⟨v,hv,rfl⟩
 |FV z b s x dst dem=>obtain⟨v,hv,rfl,rfl⟩:=hd;exact Z6 dem dst _ (by simp) rfl (by simp[Er.wf]) (by simp[Er.wf]) λτ=>⟨v,hv,rfl,rfl⟩
 |E7 s dst=>obtain⟨v,hv,rfl⟩:=hd;exact one dst _ (by simp) rfl (by simp[Er.wf]) λτ=>⟨v,hv,rfl⟩
 |Th s dst=>obtain⟨v,u,h1,h2,rfl⟩:=hd;exact one dst _ (by simp) rfl (by simp[Er.wf]) λτ=>⟨v,u,h1,h2,rfl⟩
 |mem o args dst=>obtain⟨v,hv,rfl⟩:=hd;exact one dst _ (by intro t o';split<;>simp) rfl (by simp[Er.wf]) λτ=>⟨v,hv,rfl⟩
theorem RP{r:Er}(hd:r.Mf C run σ h σ' h')(he:r.Qp=false):h'=h/\
  (r.hl=false->∀h2,r.Mf C run σ h2 σ' h2)/\
  ∀n p d,r= .load n p (some d)->∃v,A6 h n p=some v/\σ'=σ.set d (.val v)/\∀h2,A6 h2 n p=some v->r.Mf C run σ h2 σ' h2:=by
 cases r<;>simp only[Er.Qp] at he<;>try(exact absurd he (by decide))
 case pure ws=>obtain⟨rfl,rfl⟩:=hd;exact⟨rfl,λ_ _=>⟨rfl,rfl⟩,by simp⟩
 case op p args dst own dem=>obtain⟨v,hv,rfl,rfl⟩:=hd;exact⟨rfl,λ_ _=>⟨v,hv,rfl,rfl⟩,by simp⟩
 case box n v d=>obtain⟨hn,rfl,rfl⟩:=hd;exact⟨rfl,λ_ _=>⟨hn,rfl,rfl⟩,by simp⟩
 case KC fn x b fz d=>obtain⟨rfl,rfl⟩:=hd;exact⟨rfl,λ_ _=>⟨rfl,rfl⟩,by simp⟩
 case LO s off n v own dem ver cells owned=>obtain⟨hn,rfl,rfl⟩:=hd;exact⟨rfl,λ_ _=>⟨hn,rfl,rfl⟩,by simp⟩
 case load n p dst=>obtain⟨v,hv,rfl,rfl⟩:=hd;refine⟨rfl,λhh=>absurd hh (by simp[Er.hl]),λn' p' d he=>?_⟩;cases he;exact⟨v,hv,rfl,λh2 h2v=>⟨v,h2v,rfl,rfl⟩⟩
 case Mb z ok m k dst=>obtain⟨v,hv,rfl,rfl⟩:=hd;exact⟨rfl,λhh=>absurd hh (by simp[Er.hl]),by simp⟩
 case Bc f args dst=>obtain⟨GG,v,h1,h2,h3,rfl,rfl⟩:=hd;exact⟨rfl,λ_ _=>⟨GG,v,h1,h2,h3,rfl,rfl⟩,by simp⟩
theorem SN{ds:List Nat}(hn:LP σ ds=true):σ.drop ds=σ:=by
 refine BD.ext (BD.length_drop σ ds) λt=>?_;rw[BD.TW];cases hx:σ.at t with
 |EG t' o=>have:=MZ.1 hn t t' o hx;simp[this]
 |_=>rfl
theorem Pm{o:Oper}(h:∀t∈EW ops o,τ.at t=σ.at t):HU ops τ o=HU ops σ o:=by
 unfold HU;unfold EW at h;cases hg:o.guard with
 |none=>rfl
 |some g=>
  obtain⟨j,want⟩:=g;rw[hg] at h;simp only at h⊢;cases hd:(ops[j]?).bind (·.dst) with
  |none=>rfl
  |some s=>
   rw[hd] at h;simp only
   rw[h s (by simp)]
theorem Ts{o:Oper}{r:Er}(hc:Fq C fid ops σ o=some r)(ht:∀t∈Jy o.op.operands.toList,τ.at t=σ.at t)(hb:∀s∈GZ C σ o,τ.at s=σ.at s):GZ C τ o=GZ C σ o:=by
 have h:TY C σ τ o.op.operands.toList:= .lH ht
 unfold GZ at hb⊢
 cases ho:o.op with
 |load t x=>
  rw[ho] at h hb
  simp only at hb⊢
  have hn:Fp C σ x≠none:=λhe=>by
   unfold Fq at hc
   simp only[ho] at hc
   split at hc
   .unfold Kn at hc;rw[he] at hc;split at hc<;>simp_all
   .cases hc
  unfold MM
  rw[h.addr (by simp[Op.operands]) hb hn]
 |store t x y=>
  rw[ho] at h hb
  simp only at hb⊢
  have hn:Fp C σ x≠none:=λhe=>by
   unfold Fq at hc
   simp only[ho] at hc
   split at hc
   .unfold IB at hc;rw[he] at hc;split at hc<;>simp_all
   .cases hc
  unfold MM
  rw[h.addr (by simp[Op.operands]) hb hn]
 |_=>rfl
theorem SO{xs:List D5}{t o:Nat}(h: .EG t o∈xs):t∈TT xs:=Ch.2 ⟨_,h,rfl⟩
theorem N4.spec{s:St}(hs:N4 C fid ops run s σ h σ' h')(hf:s.fp.RH=true):
  ∃ws,σ'=σ.Eb ws/\(∀p∈ws,p.1∈s.fp.wf)/\(∀p∈ws,∀t o,p.2= .EG t o->t∈s.fp.lr)/\(∀x∈s.fp.wf,∀t o,σ.at x= .EG t o->t∈s.fp.lr)/\LP σ s.fp.news=true/\(s.fp.Qp=false->h'=h)/\
   (s.fp.Qp=false->s.fp.hl=true->∃f,s.fl=some f)/\
   ∀(τ:BD) (h2 Xq:Ad),τ.length=σ.length->(∀x∈s.fp.rs++s.fp.wf,τ.at x=σ.at x)->LP τ s.fp.news=true->
    ((h2=h/\Xq=h')\/(s.fp.Qp=false/\Xq=h2/\(s.fp.hl=true->∀f,s.fl=some f->A6 h2 f.n f.p=some f.v)))->N4 C fid ops run s τ h2 (τ.Eb ws) Xq:=by
 obtain⟨o,ho,⟨hg,yt,GG,rfl,rfl⟩|⟨r,σ1,hg,hc,yt,hd,GG,ha⟩⟩:=hs
 .rw[yt] at hf⊢;refine⟨o.dst.toList.map λd=>(d,.skip),UX _ _ _,λp hp=>?_,λp hp t k hl=>?_,λx hx t k hl=>?_,MZ.2 (by simp[Tk]),λ_=>rfl,λ_ hh=>absurd hh (by simp[Tk]),λτ h2 Xq hlen wL _ Ie=>?_⟩;·obtain⟨d,hd,rfl⟩:=Bk.1 hp;exact hd
  .obtain⟨d,hd,rfl⟩:=Bk.1 hp;cases hl
  .exact SO (o:=k) (Bk.2 ⟨x,hx,hl⟩)
  .have hh:Xq=h2:=by rcases Ie with⟨e1,e2⟩|⟨_,e,_⟩<;>first|exact e|rw[e1,e2]
   refine⟨o,ho,.inl ⟨?_,?_,GG,(UX _ _ _).symm,hh⟩⟩;·rw[Pm λt ht=>wL t (CE _ ht)];exact hg
   .rw[yt];have e:o.dst.toList.map τ.at=o.dst.toList.map σ.at:=List.map_congr_left λx hx=>wL x (BU _ hx);simp only[Tk,e]
 .rw[yt] at hf⊢;have wM:r.RH σ=true:=hf;have NF:LP σ r.news=true:=by unfold Er.RH at wM;rw[BL] at wM;exact wM.1
  rw[SN NF] at hd;obtain⟨wN,rfl,hw,hlr,X9⟩:=Xp hd;have aJy:∃ws2:List (Nat×D5),σ'=(σ.Eb wN).Eb ws2/\(∀p∈ws2,o.dst=some p.1/\∃b,p.2= .NC b)/\∀τ:BD,τ.length=σ.length->(∀x∈r.wf++o.dst.toList,τ.at x=σ.at x)->LB (if Qx ops s.idx then o.dst else none) (τ.Eb wN) ((τ.Eb wN).Eb ws2):=by
   by_cases hig:Qx ops s.idx=true
   .rw[if_pos hig] at ha;cases QK:o.dst with
    |none=>rw[QK] at ha;exact⟨[],ha,by simp,λτ _ _=>by simp[hig,LB,BD.Eb]⟩
    |some d=>
     rw[QK] at ha;simp only[LB] at ha;have tz:∀τ:BD,τ.length=σ.length->(∀x∈r.wf++[d],τ.at x=σ.at x)->(τ.Eb wN).at d=(σ.Eb wN).at d:=λτ hl wL=>BD.Is wN σ τ d hl (wL d (by simp));cases hx:(σ.Eb wN).at d with
     |val v=>rw[hx] at ha;obtain⟨b,rfl,rfl⟩:=ha;refine⟨[(d,.NC b)],rfl,by simp,λτ hl wL=>?_⟩;simp only[hig,BK,LB];rw[tz τ hl wL,hx];exact⟨b,rfl,rfl⟩
     |_=>rw[hx] at ha;refine⟨[],ha,by simp,λτ hl wL=>?_⟩;simp only[hig,BK,LB];rw[tz τ hl wL,hx];rfl
   .rw[if_neg hig] at ha;exact⟨[],ha,by simp,λτ _ _=>by rw[if_neg hig];rfl⟩
  obtain⟨ws2,rfl,wK,aDF⟩:=aJy;have hhl:r.hl=true->∃n p d,r= .load n p (some d)/\d<σ.length:=λhh=>by
   unfold Er.RH at wM;rw[BL] at wM;cases r with
   |load n p dst=>
    cases dst with
    |none=>exact absurd wM.2 (by simp)
    |some d=>exact⟨n,p,d,rfl,by simpa using wM.2⟩
   |Mb _ _ _ _ _=>exact absurd wM.2 (by simp)
   |_=>simp[Er.hl] at hh
  have aDG:r.Qp=false->∀n p d,r= .load n p (some d)->d<σ.length->∃v,A6 h n p=some v/\s.fl=some {idx:=s.idx,n,p,v}:=by intro he n p d hr fW;obtain⟨v,q1,q2,_⟩:=(RP hd he).2.2 n p d hr;refine⟨v,q1,?_⟩;rw[GG,hr];simp only[JV];rw[q2,BD.ES fW]
  have aJz:∀(τ:BD) h2 Xq,((h2=h/\Xq=h')\/(r.Qp=false/\Xq=h2/\(r.hl=true->∀f,s.fl=some f->A6 h2 f.n f.p=some f.v)))->r.Mf C run τ h2 (τ.Eb wN) Xq:=by
   intro τ h2 Xq Ie;rcases Ie with⟨rfl,rfl⟩|⟨he,rfl,Wi⟩
   .exact X9 τ
   .obtain⟨_,k2,k3⟩:=RP (X9 τ) he;cases hh:r.hl with
    |false=>exact k2 hh _
    |true=>obtain⟨n,p,d,hr,fW⟩:=hhl hh;obtain⟨v,q1,q2⟩:=aDG he n p d hr fW;obtain⟨v',p1,_,p3⟩:=k3 n p d hr;rw[q1] at p1;cases p1;exact p3 _ (Wi hh _ q2)
  refine⟨wN++ws2,by rw[BD.IU],λp hp=>?_,λp hp t k hl=>?_,λx hx t k hl=>?_,NF,λhe=>(RP hd he).1,λhe hh=>?_,λτ h2 Xq hlen wL t_ Ie=>?_⟩
  .rcases Ao.1 hp with hp|hp
   .exact CE _ (hw p hp)
   .exact BU _ (by rw[(wK p hp).1];simp)
  .rcases Ao.1 hp with hp|hp
   .exact BU _ (hlr p hp t k hl)
   .obtain⟨_,b,e⟩:=wK p hp;rw[e] at hl;cases hl
  .exact CE _ (SO (o:=k) (Bk.2 ⟨x,hx,hl⟩))
  .obtain⟨n,p,d,hr,fW⟩:=hhl hh;obtain⟨v,_,q2⟩:=aDG he n p d hr fW;exact⟨_,q2⟩
  .have hrs:∀t∈EW ops o++Jy o.op.operands.toList++GZ C σ o,τ.at t=σ.at t:=λt ht=>wL t (CE _ ht);have hwf:∀t∈r.wf++o.dst.toList,τ.at t=σ.at t:=λt ht=>wL t (BU _ ht);have ht:∀t∈Jy o.op.operands.toList,τ.at t=σ.at t:=λt ht=>hrs t (by simp[ht]);have hb:∀t∈GZ C σ o,τ.at t=σ.at t:=λt ht=>hrs t (by simp[ht]);have aDH:LP τ r.news=true:=t_;refine⟨o,ho,.inr ⟨r,τ.Eb wN,?_,UR hc ht hb,?_,?_,?_,?_⟩⟩;·rw[Pm λt ht=>hrs t (by simp[ht])];exact hg
   .rw[yt];have e1:(r.wf++o.dst.toList).map τ.at=(r.wf++o.dst.toList).map σ.at:=List.map_congr_left λx hx=>hwf x hx;have e2:r.RH τ=r.RH σ:=by unfold Er.RH;rw[NF,aDH,hlen]
    simp only[Tk,e1,e2,Ts hc ht hb]
   .rw[SN aDH];exact aJz τ h2 Xq Ie
   .rw[GG];exact(WD λd hd=>BD.Is wN σ τ d hlen (hwf d (CE _ hd))).symm
   .rw[BD.IU];exact aDF τ hlen hwf
end
end Go.Am
end
section
namespace Go.Am
open Go
section
variable{C:FG}{fid:FuncId}{ops:List Oper}{run:IT->Ad->Option Jo}{an:List Nat}
theorem KK{a b:List Nat}(h:(!SD a b)=true){x:Nat}(hx:x∈a):x∉b:=λhb=>by have:SD a b=true:=rD.2 ⟨x,hx,hb⟩;simp[this] at h
theorem swap{p s:St}{σ σa σ1:BD}{h ha h1:Ad}(hp:N4 C fid ops run p σ h σa ha)(hs:N4 C fid ops run s σa ha σ1 h1)(hok:PO p.fp s.fp=true)
  (Wi:s.fp.Qp=true->∀f,p.fl=some f->A6 h1 f.n f.p=some f.v):
  ∃σs TV,N4 C fid ops run s σ h σs TV/\N4 C fid ops run p σs TV σ1 h1/\(s.fp.Qp=true->TV=h1)/\(p.fp.Qp=true->h1=ha):=by
 unfold PO FP.apart at hok;simp only[BL] at hok;obtain⟨⟨⟨⟨pf,sf⟩,⟨⟨a1,a2⟩,a3⟩,a4⟩,he⟩,hl⟩:=hok;obtain⟨wsp,rfl,hpw,ZH,hpo,yu,hph,yv,ua⟩:=hp.spec pf;obtain⟨wss,rfl,hsw,eJ,hso,hsn,eF,hsf,wO⟩:=hs.spec sf;have outp:∀x∈s.fp.rs++s.fp.wf,(σ.Eb wsp).at x=σ.at x:=λx hx=>BD.F0 wsp σ x λq hq e=>KK a1 (hpw q hq) (by rw[e];exact hx);have hnsσ:LP σ s.fp.news=true:=by
  rw[MZ] at hsn⊢;intro x t o hx;by_cases hw:x∈p.fp.wf;·exact KK a3 (hpo x hw t o hx)
  .refine hsn x t o ?_;rw[BD.F0 wsp σ x λq hq e=>hw (by rw[<-e];exact hpw q hq)];exact hx
 have hlen:∀(τ:BD) (ws:List (Nat×D5)),(τ.Eb ws).length=τ.length:=λτ ws=>BD.IV ws τ;have ub:(σ.Eb wss).Eb wsp=(σ.Eb wsp).Eb wss:=(BD.rC λq hq r hr e=>by have:=KK a1 (hpw q hq);exact this (BU _ (by rw[e];exact hsw r hr))).symm
 have outs:∀x∈p.fp.rs++p.fp.wf,(σ.Eb wss).at x=σ.at x:=λx hx=>BD.F0 wss σ x λq hq e=>by
  rcases Ao.1 hx with hx|hx
  .exact KK a2 (hsw q hq) (by rw[e];exact hx)
  .exact KK a1 hx (BU _ (by rw[<-e];exact hsw q hq))
 have hnp:LP (σ.Eb wss) p.fp.news=true:=by
  rw[MZ] at yu⊢;intro x t o hx;rcases BD.UU wss σ x with h0|⟨q,hq,_,h2⟩
  .exact yu x t o (by rw[<-h0];exact hx)
  .rw[h2] at hx;exact KK a4 (eJ q hq t o hx)
 by_cases Kq:s.fp.Qp=true
 .have hpe:p.fp.Qp=false:=by
   cases hq:p.fp.Qp with
   |false=>rfl
   |true=>simp[Kq,hq] at he
  have hha:ha=h:=hph hpe;subst hha;refine⟨σ.Eb wss,h1,wO σ ha h1 (hlen σ wsp).symm (λx hx=>(outp x hx).symm) hnsσ (.inl ⟨rfl,rfl⟩),?_,λ_=>rfl,λe=>by rw[hpe] at e;cases e⟩;rw[<-ub];exact ua (σ.Eb wss) h1 h1 (hlen σ wss) outs hnp (.inr ⟨hpe,rfl,λ_ f hf=>Wi Kq f hf⟩)
 .have aDI:s.fp.Qp=false:=by simpa using Kq
  have yw:h1=ha:=eF aDI;subst yw;refine⟨σ.Eb wss,h,?_,?_,λe=>absurd e Kq,λ_=>rfl⟩
  .by_cases hpe:p.fp.Qp=true;·refine wO σ h h (hlen σ wsp).symm (λx hx=>(outp x hx).symm) hnsσ (.inr ⟨aDI,rfl,λhh=>?_⟩);simp[hpe,hh] at hl
   .have aJC:p.fp.Qp=false:=by simpa using hpe
    have hha:=hph aJC;exact wO σ h h (hlen σ wsp).symm (λx hx=>(outp x hx).symm) hnsσ (.inl ⟨hha.symm,hha.symm⟩)
  .rw[<-ub];exact ua (σ.Eb wss) h h1 (hlen σ wss) outs hnp (.inl ⟨rfl,rfl⟩)
inductive Steps(C:FG)(fid:FuncId)(ops:List Oper)(run:IT->Ad->Option Jo)(an:List Nat):List Jp->List St->BD->Ad->BD->Ad->Prop
 |nil {fl:List Jp} {σ:BD} {h:Ad}:Steps C fid ops run an fl [] σ h σ h
 |cons {fl:List Jp} {s:St} {L:List St} {σ σ1 σf:BD} {h h1 hf:Ad}:N4 C fid ops run s σ h σ1 h1->(s.fp.Qp=true->∀f∈fl,DW an f.idx s.idx=false->A6 h1 f.n f.p=some f.v)->
  Steps C fid ops run an (s.fl.toList++fl) L σ1 h1 σf hf->Steps C fid ops run an fl (s::L) σ h σf hf
theorem Steps.sub{fl:List Jp}{L:List St}{σ σf:BD}{h hf:Ad}(hs:Steps C fid ops run an fl L σ h σf hf):∀{fl':List Jp},(∀f∈fl',f∈fl)->Steps C fid ops run an fl' L σ h σf hf:=by
 induction hs with
 |nil=>intro fl' _;exact .nil
 |cons h1 h2 _ ih=>
  intro fl' NI;refine .cons h1 (λhe f hf hb=>h2 he f (NI f hf) hb) (ih λf hf=>?_);rcases Ao.1 hf with hf|hf
  .exact CE _ hf
  .exact BU _ (NI f hf)
theorem N4.yx{s:St}{σ σ':BD}{h h':Ad}(hs:N4 C fid ops run s σ h σ' h'){f:Jp}(hf:s.fl=some f):f.idx=s.idx:=by
 obtain⟨o,_,⟨_,_,GG,_⟩|⟨r,σ1,_,_,_,_,GG,_⟩⟩:=hs;·rw[GG] at hf;cases hf
 .rw[GG] at hf;unfold JV at hf;split at hf
  .split at hf;·cases hf;rfl
   .cases hf
  .cases hf
theorem Steps.lt{fl:List Jp}{L:List St}{σ σf:BD}{h hf:Ad}(hs:Steps C fid ops run an fl L σ h σf hf):∀q∈L,q.idx<ops.length:=by
 induction hs with
 |nil=>simp
 |cons h1 _ _ ih=>
  intro q hq;rcases AL.1 hq with rfl|hq
  .obtain⟨o',h2,_⟩:=h1;exact(Ah.1 h2).1
  .exact ih q hq
theorem uc{s:St}{B:List St}{σf:BD}{hf:Ad}:∀{A:List St} {fl:List Jp} {σ:BD} {h:Ad},Steps C fid ops run an fl (A++s::B) σ h σf hf->(∀p∈A,PO p.fp s.fp=true/\DW an p.idx s.idx=false)->
  ∃σ1 h1,N4 C fid ops run s σ h σ1 h1/\(s.fp.Qp=true->∀f∈fl,DW an f.idx s.idx=false->A6 h1 f.n f.p=some f.v)/\Steps C fid ops run an (s.fl.toList++fl) (A++B) σ1 h1 σf hf
 |[],fl,σ,h,hs,_=>by
  cases hs with
  |cons h1 h2 h3=>exact⟨_,_,h1,h2,h3⟩
 |p::A,fl,σ,h,hs,hA=>by
  cases hs with
  |cons h1 h2 h3=>
   rename_i σa ha;obtain⟨σ1,tk,k1,k2,k3⟩:=uc h3 λq hq=>hA q (by simp[hq]);obtain⟨hok,aJD⟩:=hA p (by simp);obtain⟨σs,TV,w1,w2,w3,w4⟩:=swap h1 k1 hok λhe f hf=>k2 he f (by rw[hf];simp) (by rw[h1.yx hf];exact aJD);refine⟨σs,TV,w1,λhe f hf hb=>?_,.cons w2 (λhe f hf hb=>?_) (k3.sub λf hf=>?_)⟩;·rw[w3 he];exact k2 he f (BU _ hf) hb
   .rw[w4 he];rcases Ao.1 hf with hf|hf
    .exfalso;unfold PO at hok;simp only[BL] at hok;obtain⟨⟨⟨⟨_,sf⟩,_⟩,hee⟩,hl⟩:=hok;cases fX:s.fl with
     |none=>rw[fX] at hf;simp at hf
     |some g=>
      have hhl:s.fp.hl=true:=by
       obtain⟨o,_,⟨_,_,GG,_⟩|⟨r,σ1',_,_,yt,_,GG,_⟩⟩:=k1;·rw[GG] at fX;cases fX
       .rw[GG] at fX;unfold JV at fX;split at fX;·rw[yt];rfl
        .cases fX
      simp[he,hhl] at hl
    .exact h2 he f hf hb
   .rcases Ao.1 hf with hf|hf
    .exact BU _ (CE _ hf)
    .rcases Ao.1 hf with hf|hf
     .exact CE _ hf
     .exact BU _ (BU _ hf)
theorem Pn{Dw:List Nat}{x:Nat}:∀(ds:List Nat) (m:Nat),(ds.foldl (λm e=>m|||bit e|||Dw.getD e 0) m).testBit x=true↔m.testBit x=true\/∃e∈ds,x=e\/(Dw.getD e 0).testBit x=true
 |[],m=>by simp
 |d::ds,m=>by
  rw[List.foldl_cons,Pn ds];simp only[Nat.testBit_or,bit,Nat.testBit_two_pow,Bool.or_eq_true,DJ,AL,exists_eq_or_imp];constructor
  .rintro((h|h)|h)
   .rcases h with h|h
    .exact .inl h
    .exact .inr (.inl (.inl h.symm))
   .exact .inr (.inl (.inr h))
   .exact .inr (.inr h)
  .rintro(h|(h|h)|h);·exact .inl (.inl (.inl h))
   .exact .inl (.inl (.inr h.symm))
   .exact .inl (.inr h)
   .exact .inr h
theorem KE:∀(l:List Oper) (Dw:List Nat) (i:Nat),i<Dw.length->(J2 Dw l).getD i 0=Dw.getD i 0
 |[],Dw,i,h=>rfl
 |o::l,Dw,i,h=>by rw[J2,KE l _ i (by simp;omega)];simp[List.getD,Af h]
theorem Po:∀(l:List Oper) (Dw:List Nat) (k:Nat) (o:Oper),l[k]?=some o->(∀e∈Oper.Tj o,e<Dw.length+k)->∀x,
  ((J2 Dw l).getD (Dw.length+k) 0).testBit x=true↔∃e∈Oper.Tj o,x=e\/((J2 Dw l).getD e 0).testBit x=true
 |[],Dw,k,o,h,_,x=>by simp at h
 |o'::l,Dw,0,o,h,hd,x=>by
  simp at h;subst h;rw[J2,KE l _ (Dw.length+0) (by simp)];have e1:(Dw++[(Oper.Tj o').foldl (λm e=>m|||bit e|||Dw.getD e 0) 0]).getD (Dw.length+0) 0=(Oper.Tj o').foldl (λm e=>m|||bit e|||Dw.getD e 0) 0:=by simp[List.getD]
  rw[e1,Pn];simp only[Nat.zero_testBit,C1,false_or];constructor;·rintro⟨e,he,h⟩;refine⟨e,he,h.imp id λh=>?_⟩;have hlt:e<Dw.length:=hd e he;rw[KE l _ e (by simp;omega)];simpa[List.getD,Af hlt] using h
  .rintro⟨e,he,h⟩;refine⟨e,he,h.imp id λh=>?_⟩;have hlt:e<Dw.length:=hd e he;rw[KE l _ e (by simp;omega)] at h;simpa[List.getD,Af hlt] using h
 |o'::l,Dw,k+1,o,h,hd,x=>by simp at h;rw[J2];have:=Po l (Dw++[(Oper.Tj o').foldl (λm e=>m|||bit e|||Dw.getD e 0) 0]) k o h (λe he=>by have:=hd e he;simp;omega) x;simp only[As,Bd,BT,BJ] at this;rw[show Dw.length+(k+1)=Dw.length+1+k by omega];exact this
theorem Xr{i:Nat}{o:Oper}(ho:ops[i]?=some o)(hd:∀e∈Oper.Tj o,e<i)(x:Nat):DW (Uv ops) x i=true↔∃e∈Oper.Tj o,x=e\/DW (Uv ops) x e=true:=by have:=Po ops [] i o ho (by simpa using hd) x;simpa[DW,Uv] using this
theorem N5(h:X7 ops=true){i:Nat}{o:Oper}(ho:ops[i]?=some o):∀e∈Oper.Tj o,e<i:=by
 unfold X7 at h;rw[EI] at h;have:=h (o,i) (by refine CD (i:=i) ?_;simp[List.getElem?_zipIdx,ho])
 intro e he;simpa using EI.1 this e he
theorem Xs:∀{l:List (Nat×FP)},Ux.go an l=true->l.Pairwise λx y=>x.1≠y.1/\DW an y.1 x.1=false/\(DW an x.1 y.1=true\/PO x.2 y.2=true)
 |[],_=> .nil
 |(i,f)::l,h=>by simp only[Ux.go,BL,EI] at h;refine .cons (λy hy=>?_) (Xs h.2);have:=h.1 y hy;simp only[bne_iff_ne,Bool.not_eq_true',Bool.or_eq_true] at this;exact⟨this.1.1,this.1.2,this.2⟩
theorem wQ{d:Option Nat}{σ:BD}{K:BD->IT}{h:Ad}{R:Jo}(hr:IT.step (B5 C) run (kX d σ K) h=some R):∃σ',LB d σ σ'/\IT.step (B5 C) run (K σ') h=some R:=by
 unfold kX at hr;cases d with
 |none=>exact⟨σ,rfl,hr⟩
 |some d=>
  simp only at hr;cases hx:σ.at d with
  |val v=>
   rw[hx] at hr;simp only[IT.step] at hr;split at hr;·exact⟨σ.set d (.NC true),by simp only[LB,hx];exact⟨true,rfl,rfl⟩,hr⟩
   .exact⟨σ.set d (.NC false),by simp only[LB,hx];exact⟨false,rfl,rfl⟩,hr⟩
   .cases hr
  |_=>rw[hx] at hr;exact⟨σ,by simp only[LB,hx],hr⟩
theorem M0{i:Nat}{t:IT}{h:Ad}{R:Jo}:∀{fl:List Jp},IT.step (B5 C) run (Qw an i fl t) h=some R->(∀f∈fl,DW an f.idx i=false->A6 h f.n f.p=some f.v)/\IT.step (B5 C) run t h=some R
 |[],hr=>⟨by simp,hr⟩
 |f::fl,hr=>by
  unfold Qw at hr;by_cases hb:DW an f.idx i=true
  .rw[if_pos hb] at hr;obtain⟨k1,k2⟩:=M0 hr;refine⟨λg hg hgb=>?_,k2⟩;rcases AL.1 hg with rfl|hg
   .rw[hb] at hgb;cases hgb
   .exact k1 g hg hgb
  .rw[if_neg hb] at hr;simp only[IT.step] at hr;split at hr
   .rename_i v hv;split at hr
    .rename_i Jk;obtain⟨k1,k2⟩:=M0 hr;refine⟨λg hg hgb=>?_,k2⟩;rcases AL.1 hg with rfl|hg
     .rw[Aa.US Jk];exact hv
     .exact k1 g hg hgb
    .cases hr
   .cases hr
theorem PV{K:BD->IT}{R:Jo}:∀{rest:List Nat} {ann:List (Nat×FP)} {fl:List Jp} {σ:BD} {h:Ad},IT.step (B5 C) run (PQ C fid ops an rest ann fl σ K) h=some R->
  ∃L σf hf,Steps C fid ops run an fl L σ h σf hf/\Ux ops.length an (ann.reverse++L.map λs=>(s.idx,s.fp))=true/\IT.step (B5 C) run (K σf) hf=some R
 |[],ann,fl,σ,h,hr=>by
  unfold PQ at hr;split at hr;·rename_i hok;exact⟨[],σ,h,.nil,by simpa using hok,hr⟩
  .cases hr
 |i::rest,ann,fl,σ,h,hr=>by
  unfold PQ at hr;cases ho:ops[i]? with
  |none=>rw[ho] at hr;cases hr
  |some o=>
   rw[ho] at hr;simp only at hr;split at hr
   .rename_i hg;split at hr;·cases hr
    .rename_i r hc;obtain⟨σ1,h1,hd,hr⟩:=W9 hr;have Fu:(r.Qp=true->∀f∈fl,DW an f.idx i=false->A6 h1 f.n f.p=some f.v)/\IT.step (B5 C) run (kX (if Qx ops i then o.dst else none) σ1 λσ''=>PQ C fid ops an rest ((i,Tk C ops σ o (some r))::ann) (Lw i r σ1 fl) σ'' K) h1=some R:=by
      split at hr;·obtain⟨k1,k2⟩:=M0 hr;exact⟨λ_=>k1,k2⟩
      .rename_i he;exact⟨λe=>absurd e he,hr⟩
     obtain⟨Wi,hr⟩:=Fu;obtain⟨σ',ha,hr⟩:=wQ hr;rw[UW] at hr;obtain⟨L,σf,hf,k1,k2,k3⟩:=PV hr;exact⟨{idx:=i,fp:=Tk C ops σ o (some r),fl:=JV i r σ1}::L,σf,hf,.cons ⟨o,ho,.inr ⟨r,σ1,hg,hc,rfl,hd,rfl,ha⟩⟩ Wi k1,by simpa using k2,k3⟩
   .rename_i hg;obtain⟨L,σf,hf,k1,k2,k3⟩:=PV hr;exact⟨{idx:=i,fp:=Tk C ops σ o none,fl:=none}::L,σf,hf,.cons ⟨o,ho,.inl ⟨hg,rfl,rfl,rfl,rfl⟩⟩ (λe=>by simp[Tk] at e) k1,by simpa using k2,k3⟩
   .cases hr
end
section
variable{C:FG}{γ0 γ:Gh}{w0 w:World}{β:Nat->Nat}{σ:BD}{h:Ad}{a:Act}{fid:FuncId}
theorem KF(hr:CR C γ0 w0 γ β σ h a w){ops:Array Oper}{o:Oper}{b:Bool}(hg:HU ops.toList σ o= .Mc b):Region.wanted o (yielded ops a.tmps)=b:=by
 unfold HU at hg;unfold Region.wanted;cases ho:o.guard with
 |none=>rw[ho] at hg;cases hg;rfl
 |some g=>
  obtain⟨j,want⟩:=g;rw[ho] at hg;simp only[Array.getElem?_toList] at hg⊢;unfold yielded;cases hd:(ops[j]?).bind (·.dst) with
  |none=>rw[hd] at hg;cases hg
  |some s=>
   rw[hd] at hg;simp only[Ct] at hg⊢;have h0:=hr.fr.Hs s;cases hx:σ.at s with
   |NC c=>
    rw[hx] at hg h0;cases hg;have hl:s<a.tmps.size:=by rw[<-hr.fr.size];exact BD.NX (by rw[hx];simp)
    have hv:a.tmps.getD s undef= .bool c:=h0;have:a.tmps[s]?=some (.bool c):=by rw[C2 hl];rw[Lq,C2 hl] at hv;exact Cd some hv
    rw[this];rfl
   |skip=>
    rw[hx] at hg h0;cases hg;have hv:a.tmps.getD s undef=undef:=h0;have hne:∀c,a.tmps[s]?≠some (.bool c):=λc hc=>by rw[Lq,hc] at hv;cases hv
    cases ht:a.tmps[s]? with
    |none=>rfl
    |some v=>
     cases v with
     |bool c=>exact absurd ht (hne c)
     |_=>rfl
   |val v=>rw[hx] at hg;cases hg
   |_=>rw[hx] at hg;cases hg
theorem CR.aDK(hr:CR C γ0 w0 γ β σ h a w){d:Option Nat}{σ':BD}(ha:LB d σ σ'):CR C γ0 w0 γ β σ' h a w:=by
 unfold LB at ha;cases d with
 |none=>simp only at ha;rw[ha];exact hr
 |some d=>
  simp only at ha;cases hx:σ.at d with
  |val v=>rw[hx] at ha;obtain⟨b,rfl,rfl⟩:=ha;have h0:=hr.fr.Hs d;rw[hx] at h0;exact hr.ZY h0
  |_=>rw[hx] at ha;rw[ha];exact hr
structure aJE(ops:Array Oper)(listed:Array Bool)(L:List St):Prop where
 size:listed.size=ops.size
 un:∀i,i<ops.size->(listed.getD i false=false↔i∈L.map (·.idx))
 closed:∀j,listed.getD j false=true->∀e,DW (Uv ops.toList) e j=true->listed.getD e false=true
abbrev lI(an:List Nat)(L:List St):Prop:=L.Pairwise λx y=>x.idx≠y.idx/\DW an y.idx x.idx=false/\(DW an x.idx y.idx=true\/PO x.fp y.fp=true)
theorem rF{run:IT->Ad->Option Jo}(hS:ED C run){ops:Array Oper}{Q:Exit->Act->World->Prop}(FD:X7 ops.toList=true){σf:BD}{hf:Ad}(hQ:∀γ' β' a' w',CR C γ0 w0 γ' β' σf hf a' w'->Q .normal a' w'):
  ∀(fuel:Nat) (L:List St) (listed:Array Bool) (γ:Gh) (β:Nat->Nat) (σ:BD) (h:Ad) (a:Act) (w:World),L.length=fuel->Steps C fid ops.toList run (Uv ops.toList) [] L σ h σf hf->lI (Uv ops.toList) L->aJE ops listed L->CR C γ0 w0 γ β σ h a w->
   wpAny C.P .any ops Q fuel listed a w:=by
 intro fuel;induction fuel with
 |zero=>
  intro L listed γ β σ h a w hL hs hp ho hr;have hL0:L=[]:=EU hL;subst hL0;cases hs;refine⟨List.eq_nil_iff_forall_not_mem.2 λi hi=>?_,hQ _ _ _ _ hr⟩;obtain⟨h0,o,dv,_⟩:=mem_ready.1 hi;have hlt:i<ops.size:=(A0.1 dv).1;have WB:listed.getD i false=false:=by
   have hl:i<listed.size:=by rw[ho.size];exact hlt
   simpa[Array.getD,hl] using h0
  have:=(ho.un i hlt).1 WB;simp at this
 |succ fuel ih=>
  intro L listed γ β σ h a w hL hs hp ho hr;have Yh:∀i,i<ops.size->listed.getD i true=listed.getD i false:=λi hi=>by
   have hl:i<listed.size:=by rw[ho.size];exact hi
   simp[Array.getD,hl]
  constructor
  .intro Wi;exfalso;cases L with
   |nil=>simp at hL
   |cons s0 L=>
    obtain⟨o,dv,_⟩:∃o,ops.toList[s0.idx]?=some o/\True:=by
     cases hs with
     |cons h1 _ _=>obtain⟨o,h2,_⟩:=h1;exact⟨o,h2,trivial⟩
    have fY:ops[s0.idx]?=some o:=by simpa using dv
    have hlt:s0.idx<ops.size:=(A0.1 fY).1;have:s0.idx∈Region.ready .any ops listed:=by
     refine mem_ready.2 ⟨?_,o,fY,λe he hb=>?_⟩;·rw[Yh _ hlt];exact(ho.un _ hlt).2 (by simp)
     .have hed:e.on∈Oper.Tj o:=Ch.2 ⟨e,by simpa using he,by rw[if_pos hb]⟩;have hei:=N5 FD dv e.on hed;cases hl:listed.getD e.on false with
      |true=>rfl
      |false=>
       have hm:=(ho.un e.on (by omega)).1 hl;simp only[Bl,AL] at hm;rcases hm with hm|hm
       .omega
       .obtain⟨y,hy,hye⟩:=Bk.1 hm;have:=((List.pairwise_cons.1 hp).1 y hy).2.1;rw[hye,(Xr dv (N5 FD dv) e.on).2 ⟨e.on,hed,.inl rfl⟩] at this;cases this
    rw[Wi] at this;cases this
  .intro i hi;obtain⟨h0,o,dv,aDL⟩:=mem_ready.1 hi;have hlt:i<ops.size:=(A0.1 dv).1;rw[Yh i hlt] at h0;obtain⟨s,hsL,rfl⟩:=Bk.1 ((ho.un i hlt).1 h0);obtain⟨A,B,rfl⟩:=List.append_of_mem hsL;have fY:ops.toList[s.idx]?=some o:=by simpa using dv
   have aDM:∀e,DW (Uv ops.toList) e s.idx=true->listed.getD e false=true:=λe he=>by
    obtain⟨d,hd,Ie⟩:=(Xr fY (N5 FD fY) e).1 he;obtain⟨ed,hed,hb⟩:=Ch.1 hd;split at hb
    .rename_i Pl;cases hb;have fW:=aDL ed (by simpa using hed) Pl;rcases Ie with rfl|Ie
     .exact fW
     .exact ho.closed _ fW e Ie
    .cases hb
   have hApair:=(List.pairwise_append.1 hp).2.2;have yy:∀p∈A++s::B,p.idx<ops.size:=λp hp'=>by simpa using hs.lt p hp'
   obtain⟨σ1,h1,k1,_,k3⟩:=uc hs λp hpA=>by
    have hb:DW (Uv ops.toList) p.idx s.idx=false:=by
     cases Pl:DW (Uv ops.toList) p.idx s.idx with
     |false=>rfl
     |true=>have h1:=aDM _ Pl;have h2:=(ho.un p.idx (yy p (by simp[hpA]))).2 (Bk.2 ⟨p,by simp[hpA],rfl⟩);rw[h1] at h2;cases h2
    refine⟨?_,hb⟩;have:=(hApair p hpA s (by simp)).2.2;rw[hb] at this;exact this.resolve_left (by simp)
   have ud:∀γ' β' a' w',CR C γ0 w0 γ' β' σ1 h1 a' w'->wpAny C.P .any ops Q fuel (listed.setIfInBounds s.idx true) a' w':=λγ' β' a' w' Fu=>by
    refine ih (A++B) _ γ' β' σ1 h1 a' w' (by simp at hL⊢;omega) (k3.sub (by simp)) ?_ ⟨by simp[ho.size],λj hj=>?_,λj hj e he=>?_⟩ Fu;·exact hp.sublist ((AX A).append (List.sublist_cons_self s B))
    .by_cases hjs:j=s.idx
     .subst hjs;have yz:s.idx∉(A++B).map (·.idx):=λhm=>by
       obtain⟨q,hq,he⟩:=Bk.1 hm;rcases Ao.1 hq with hq|hq
       .exact(hApair q hq s (by simp)).1 he
       .exact(List.pairwise_cons.1 (List.pairwise_append.1 hp).2.1).1 q hq |>.1 he.symm
      have ht:(listed.setIfInBounds s.idx true).getD s.idx false=true:=by
       have hl:s.idx<listed.size:=by rw[ho.size];exact hlt
       simp[Array.getD,hl]
      rw[ht];exact⟨λe=>absurd e (by simp),λe=>absurd e yz⟩
     .rw[getD_set_ne false (λe=>hjs e.symm),ho.un j hj];simp only[BH,Bl,Ao,AL];constructor
      .rintro(e|e|e);·exact .inl e
       .exact absurd e hjs
       .exact .inr e
      .rintro(e|e);·exact .inl e
       .exact .inr (.inr e)
    .by_cases hjs:j=s.idx;·subst hjs;exact getD_set_true (aDM e he)
     .rw[getD_set_ne false (λe=>hjs e.symm)] at hj;exact getD_set_true (ho.closed j hj e he)
   unfold wpOp;rw[dv];obtain⟨o',dn,⟨hg,_,_,rfl,rfl⟩|⟨r,σ2,hg,hc,_,hd,_,ha⟩⟩:=k1;·rw[fY] at dn;cases dn;simp only[KF hr hg,C1,D9];exact ud _ _ _ _ (hr.put λ_ _=>rfl)
   .rw[fY] at dn;cases dn;simp only[KF hr hg,BK];exact .inl (wJ hS hc hd hr λγ' β' a' w' Fu=>ud γ' β' a' w' (Fu.aDK ha))
end
end Go.Am
end
