/- Lemmas -/
import Derived.Test.YtbnogamdhadfcaaGreatDoorU6
set_option linter.unusedVariables false
set_option linter.unusedSimpArgs false
section
namespace Go.Am
open Go
section
variable{C:FI}{γ0 γ γ':Gh}{w0 w w':World}{β:Nat->Nat}{σ σ':BD}{h h':Ae}{a:Act}{fid:FuncId}{ops:List Oper}
theorem FM.wp{o:Oper}{K:Act->World->Prop}{Q:Exit->Act->World->Prop}(hs:FM C γ0 w0 o a w σ' h')(hK:∀γ' β' a' w',CS C γ0 w0 γ' β' σ' h' a' w'->K a' w'):o.wp C.P a w K Q:=by
 obtain⟨γ',β',w',⟨v,he,hr⟩|⟨he,hr⟩⟩:=hs;·exact Ir he (hK _ _ _ _ hr)
 .exact eL he (hK _ _ _ _ hr)
theorem Wy{P:Program}{op:BinOp}{t:TypeId}{p:We}(hp:Ox P op t=some p):p.still=true:=by
 have Ji:∀neg u,Rw P t neg u=some p->p.still=true:=by
  intro neg u h;unfold Rw at h;split at h;·cases h;rfl
  .split at h
   .cases hf:NJ P 20 t with
    |none=>rw[hf] at h;cases h
    |some k=>rw[hf] at h;cases h;rfl
   .cases h
  .split at h<;>cases h;rfl
  .cases h;rfl
  .cases h;rfl
  .cases h;rfl
  .cases h
 unfold Ox at hp;split at hp;·cases hp;rfl
 .cases hp;rfl
 .split at hp;·exact Ji _ _ hp
  .exact Ji _ _ hp
  .cases hp
 .cases hp
theorem Md{P:Program}{t:TypeId}{f off:Nat}{sh:Option Nat}(hf:HF P t f=some (off,sh))(b o:Nat):(Instr.fieldAt t (.pointer (some ⟨b,o,none⟩)) f).run P w= .ok (.pointer (some ⟨b,o+off,none⟩)) w:=by
 unfold HF at hf;split at hf
 .rename_i fs kO;split at hf
  .rename_i fd kP;split at hf;·rename_i n sh' h1 h2;cases hf;simp[Instr.fieldAt,run_underlying kO,kP,Instr.sureAddr,fieldPlace,Dp h1,Addr.add_lit]
   .cases hf
  .cases hf
 .cases hf
theorem UK(hr:CS C γ0 w0 γ β σ h a w){s ver:Nat}{cs:List Aa}{ow:List Nat}(hs:DJ C σ (.tmp s)=some (.box ver cs ow)):a.eval (.tmp s)= .pointer (some ⟨β s,0,none⟩):=by have h0:=Qv hr s;rw[Gl hs] at h0;exact h0.1
theorem SF(hr:CS C γ0 w0 γ β σ h a w){x:Operand}{s k:Nat}(hs:DJ C σ x=some (.EG s k)):a.eval x= .pointer (some ⟨β s,k,none⟩):=by obtain⟨t,h1,_⟩:=Fz hr hs;exact h1
theorem Xi{o:Oper}{t:TypeId}{v:Aa}{d:Nat}{r:Er}{run:IT->Ae->Option Jn}(hb:Ss C fid t v d=some r)(FG:r.L9 C run (σ.drop r.news) h σ' h')
  (NI:∀n,C.kind fid d= .NI->v.cells.length=n->n≠0->FM C γ0 w0 o a w ((σ.drop [d]).set d (.box 0 v.cells [])) h)
  (heap:v.cells.length≠0->FM C γ0 w0 o a w (σ.put (some d) (.val (.ptr (some (h.length,0))))) (h++[.cells v.cells])):FM C γ0 w0 o a w σ' h':=by
 unfold Ss at hb;split at hb;·cases hb
 .rename_i n hn;split at hb;·cases hb
  .rename_i hn0;split at hb;·cases hb;obtain⟨h1,rfl,rfl⟩:=FG;rename_i hk;exact NI n hk h1 hn0
   .cases hb;obtain⟨h1,rfl,rfl⟩:=FG;exact heap (by omega)
theorem OC{d s k:Nat}{run:IT->Ae->Option Jn}(FG:(Er.pure [(d,.EG s k)]).L9 C run (σ.drop (Er.pure [(d,.EG s k)]).news) h σ' h'):σ'=σ.set d (.EG s k)/\h'=h:=by obtain⟨rfl,rfl⟩:=FG;exact⟨rfl,rfl⟩
theorem vU{run:IT->Ae->Option Jn}(hS:ED C run){o:Oper}{r:Er}{K:Act->World->Prop}{Q:Exit->Act->World->Prop}(hc:Fv C fid ops σ o=some r)(FG:r.L9 C run (σ.drop r.news) h σ' h')(hr:CS C γ0 w0 γ β σ h a w)
  (hK:∀γ' β' a' w',CS C γ0 w0 γ' β' σ' h' a' w'->K a' w'):o.wp C.P a w K Q:=by
 by_cases hst:∃p args dst own dem,r= .op p args dst own dem/\p.still=true
 .obtain⟨p,args,dst,own,dem,rfl,fu⟩:=hst
  obtain⟨hS',rfl,rfl,rfl⟩:=qL hc fu hr
  obtain⟨v,hv,rfl,rfl⟩:=FG
  obtain⟨u,q1,q2⟩:=hS' v hv
  exact Ir q1 (hK _ _ _ _ (hr.put λ_ _=>q2))
 .have Tg:∀{p args dst},r= .op p args dst false none->p.still=false:=λ{p args dst} he=>by
   cases hp:p.still with
   |false=>rfl
   |true=>exact absurd ⟨p,args,dst,false,none,he,hp⟩ hst
  have GJ:∀{p dst x},Rx p dst x=some r->p.still=false:=λ{p dst x} he=>by
   obtain⟨args,_,e⟩:=Dy he
   exact Tg e
  unfold Fv at hc
  split at hc
  .rename_i x ho
   split at hc
   .rename_i d hd
    obtain⟨γ',Fy⟩:=Qx hc FG hr
    exact Ir (w':=w) (v:=a.eval x) (by simp[execOp,ho]) (hK _ _ _ _ (by rw[hd];exact Fy))
   .cases hc
  .rename_i x ho
   split at hc
   .rename_i d hd
    obtain⟨γ',Fy⟩:=Qx hc FG hr
    exact Ir (w':=w) (v:=a.eval x) (by simp[execOp,ho]) (hK _ _ _ _ (by rw[hd];exact Fy))
   .cases hc
  .rename_i c x y ho
   split at hc
   .rename_i d hcs hd
    obtain⟨γ',Fy⟩:=Qx hc FG hr
    obtain⟨s,h1,_⟩:=Fz hr hcs
    have h1:a.eval c= .bool true:=h1
    exact Ir (w':=w) (v:=a.eval x) (by simp[execOp,ho,h1,asBool]) (hK _ _ _ _ (by rw[hd];exact Fy))
   .rename_i d hcs hd
    obtain⟨γ',Fy⟩:=Qx hc FG hr
    obtain⟨s,h1,_⟩:=Fz hr hcs
    have h1:a.eval c= .bool false:=h1
    exact Ir (w':=w) (v:=a.eval y) (by simp[execOp,ho,h1,asBool]) (hK _ _ _ _ (by rw[hd];exact Fy))
   .cases GJ hc
  .rename_i t ho
   split at hc
   .rename_i d z hd hz
    split at hc
    .split at hc
     .rename_i HI
      cases hc
      obtain⟨rfl,rfl⟩:=FG
      exact(Uy ho hd hz HI.2 hr).wp hK
     .cases hc
    .rename_i hk
     refine(Xi (o:=o) (a:=a) (w:=w) (γ0:=γ0) (w0:=w0) hc FG (λn h0 h1 h2=>absurd h0 (by simpa using hk)) λh1=>Uz ho hd hz h1 hr).wp hK
   .cases hc
  .rename_i t x ho
   split at hc
   .rename_i d v hd hv
    exact(Xi (o:=o) (a:=a) (w:=w) (γ0:=γ0) (w0:=w0) hc FG (λn _ h1 h2=>X9 ho hd hv h1 h2 hr) λh1=>Ya ho hd hv h1 hr).wp hK
   .cases hc
  .split at hc
   .split at hc
    .cases GJ hc
    .cases hc
   .cases hc
  .rename_i t len parts ho
   split at hc
   .rename_i e ht
    split at hc
    .rename_i n hn
     split at hc
     .rename_i HI
      cases ha:Bq C σ (parts.toList.map (·.2)) with
      |none=>rw[ha] at hc;cases hc
      |some args=>
       rw[ha] at hc;cases hc
       obtain⟨v,hv,rfl,rfl⟩:=FG
       exact(vA ho ht hn HI.1 HI.2 ha hv hr).wp hK
     .cases hc
    .cases hc
   .cases hc
  .rename_i t x ho
   split at hc
   .rename_i d hd
    by_cases hp:∃ws,r= .pure ws
    .exact(Wu ho hd hc hp FG hr).wp hK
    .unfold Kp at hc
     split at hc
     .rename_i n p ht hx
      cases hc
      obtain⟨v,hv,rfl,rfl⟩:=FG
      have hs:=uY ho ht hx hv hr
      rw[hd] at hs
      exact hs.wp hK
     .split at hc
      .simp only at hc
       split at hc<;>(cases hc;exact absurd ⟨_,rfl⟩ hp)
      .cases hc
     .split at hc
      .cases hc;exact absurd ⟨_,rfl⟩ hp
      .cases hc
     .cases hc
   .cases hc
  .rename_i t x y ho
   split at hc
   .rename_i hd
    have J4:=hc
    unfold IA at hc
    split at hc
    .rename_i n p v hsz hx hv
     cases hc
     obtain⟨aJt,rfl⟩:=FG
     exact(qM ho hd hsz hx hv aJt hr).wp hK
    .split at hc
     .cases hc
      exact(eZ ho hd J4 FG hr).wp hK
     .cases hc
    .cases hc
   .cases hc
  .rename_i x ho
   split at hc
   .rename_i s ver cs ow d hd hs
    cases hc
    obtain⟨rfl,rfl⟩:=OC FG
    have he:=UK hr hs
    exact Ir (w':=w) (v:= .pointer (some ⟨β s,0,none⟩)) (by simp[execOp,ho,he]) (hK _ _ _ _ (by rw[hd];exact hr.put (d:=some d) λ_ _=>rfl))
   .rename_i s k d hd hs
    cases hc
    obtain⟨rfl,rfl⟩:=OC FG
    have he:=SF hr hs
    exact Ir (w':=w) (v:= .pointer (some ⟨β s,k,none⟩)) (by simp[execOp,ho,he]) (hK _ _ _ _ (by rw[hd];exact hr.put (d:=some d) λ_ _=>rfl))
   .cases GJ hc
  .split at hc
   .rename_i p hp
    have fu:=GJ hc
    rw[Wy hp] at fu
    cases fu
   .cases hc
  .cases GJ hc
  .rename_i src aJc x ho
   split at hc
   .rename_i hq
    unfold Uk at hq
    cases hv:Es C σ x with
    |none=>rw[hv] at hc;cases hc
    |some v=>
     rw[hv] at hc;cases hc
     split at hq
     .cases hq
     .cases hq
     .cases hq
     .rename_i e hs hd
      split at hq
      .rename_i he
       obtain⟨v',u,h1,h2,rfl⟩:=FG
       exact(fh ho hs hd he hv h1 h2 hr).wp hK
      .cases hq
     .split at hq<;>cases hq
     .cases hq
   .rename_i hq
    unfold Uk at hq
    split at hq
    .cases hq
    .cases hq
    .cases hq
    .split at hq<;>cases hq
    .rename_i e hs hd
     split at hq
     .rename_i he _ _
      split at hc
      .cases hv:Es C σ x with
       |none=>rw[hv] at hc;cases hc
       |some v=>
        rw[hv] at hc;cases hc
        obtain⟨u,h1,rfl⟩:=FG
        exact(Ye ho hs hd he hv h1 hr).wp hK
      .obtain⟨args,ha,rfl⟩:=Dy hc
       obtain⟨u,h1,rfl,rfl⟩:=FG
       obtain⟨v,rfl,_⟩:=F8 hr ha
       exact(fg ho hs hd he ha h1 hr).wp hK
     .cases hq
    .cases hq
   .rename_i p LU Rq hq
    have fu:=GJ hc
    unfold Uk at hq
    split at hq
    .cases hq;cases fu
    .cases hq;cases fu
    .cases hq
    .split at hq
     .cases hq;exact absurd rfl LU
     .cases hq
    .split at hq
     .cases hq;exact absurd rfl Rq
     .cases hq
    .cases hq
   .cases hc
  .rename_i fn first captured ho
   split at hc
   .rename_i d as bs fz hd ha hb
    cases hc
    obtain⟨rfl,rfl⟩:=FG
    exact(Z7 ho hd ha hb hr).wp hK
   .cases hc
  .rename_i t ho
   cases hc
   obtain⟨rfl,rfl⟩:=FG
   exact(vJ ho hr).wp hK
  .rename_i t l c ho
   split at hc
   .rename_i e ht
    split at hc
    .rename_i n b z vl vc hn hb hz hl Ww
     cases hc
     obtain⟨v,h1,rfl⟩:=FG
     exact(vE ho ht hn hb hz hl Ww h1 hr).wp hK
    .cases hc
   .cases hc
  .rename_i t m k x ho
   split at hc
   .rename_i kt e ht
    split at hc
    .rename_i vm vk vx hd hk ha
     cases hc
     obtain⟨h1,rfl⟩:=FG
     exact(aC (.inl ho) hd ht hk ha h1 hr).wp hK
    .cases hc
   .cases hc
  .rename_i t m k x ho
   split at hc
   .rename_i kt e ht
    split at hc
    .rename_i vm vk vx hd hk ha
     cases hc
     obtain⟨h1,rfl⟩:=FG
     exact(aC (.inr ho) hd ht hk ha h1 hr).wp hK
    .cases hc
   .cases hc
  .rename_i t m k ok ho
   split at hc
   .rename_i kt e ht
    split at hc
    .rename_i z vm vk hk hz ha
     cases hc
     obtain⟨v,h1,rfl,rfl⟩:=FG
     exact(vK ho ht hk hz ha h1 hr).wp hK
    .rename_i z vm vk hk hz ha
     cases hc
     obtain⟨v,h1,rfl⟩:=FG
     exact(vT ho ht hk hz ha h1 hr).wp hK
    .cases hc
   .cases hc
  .rename_i t x lo hi mx ho
   split at hc
   .rename_i e ht
    split at hc
    .rename_i n hn
     obtain⟨args,ha,rfl⟩:=Hc hc
     obtain⟨v,h1,rfl⟩:=FG
     simp only[Ep] at h1
     split at h1
     .rename_i hch
      cases h1
      exact(vR ho ht hn ha hch hr).wp hK
     .cases h1
    .cases hc
   .cases hc
  .rename_i t x ho
   split at hc
   .cases hc
   .rename_i u hu ht
    obtain⟨args,ha,rfl⟩:=Hc hc
    obtain⟨v,h1,rfl⟩:=FG
    obtain⟨y,rfl,_⟩:=F8 hr ha
    cases h1
    exact(vS ho ht (λi e=>hu i e) ha hr).wp hK
   .cases hc
  .rename_i t m k ho
   split at hc
   .rename_i kt e ht
    split at hc
    .rename_i z hk hz
     obtain⟨args,ha,rfl⟩:=Hc hc
     obtain⟨v,h1,rfl⟩:=FG
     obtain⟨y1,y2,rfl,_,_⟩:=Fc hr ha
     exact(fI ho ht hk hz ha h1 hr).wp hK
    .cases hc
   .cases hc
  .rename_i t m s x ho
   split at hc
   .rename_i hd
    obtain⟨args,ha,rfl⟩:=Hc hc
    obtain⟨v,h1,rfl⟩:=FG
    obtain⟨y1,y2,y3,rfl⟩:∃y1 y2 y3,args=[y1,y2,y3]:=by
     have:=Dx hr ha
     cases args with
     |nil=>cases h1
     |cons y1 l1=>cases l1 with
      |nil=>cases h1
      |cons y2 l2=>cases l2 with
       |nil=>cases h1
       |cons y3 l3=>cases l3 with
        |nil=>exact⟨_,_,_,rfl⟩
        |cons _ _=>cases h1
    exact(fJ ho hd ha h1 hr).wp hK
   .cases hc
  .rename_i t x lo hi ho
   split at hc
   .cases GJ hc
   .rename_i e ht
    split at hc
    .rename_i n hn
     split at hc
     .obtain⟨args,ha,rfl⟩:=Hc hc
      obtain⟨v,h1,rfl⟩:=FG
      cases args with
      |nil=>cases h1
      |cons y l=>exact(vP ho ht hn ha h1 hr).wp hK
     .cases GJ hc
    .cases hc
   .cases hc
  .rename_i t x f ho
   split at hc
   .rename_i off sh d hf hd
    split at hc
    .rename_i s ver cs ow hs
     cases hc
     obtain⟨rfl,rfl⟩:=OC FG
     have he:=UK hr hs
     exact Ir (w':=w) (v:= .pointer (some ⟨β s,off,none⟩)) (by simp only[execOp,ho,he];exact El (by rw[Md hf];simp)) (hK _ _ _ _ (by rw[hd];exact hr.put (d:=some d) λ_ _=>rfl))
    .rename_i s k hs
     cases hc
     obtain⟨rfl,rfl⟩:=OC FG
     have he:=SF hr hs
     exact Ir (w':=w) (v:= .pointer (some ⟨β s,k+off,none⟩)) (by simp only[execOp,ho,he];exact El (Md hf _ _)) (hK _ _ _ _ (by rw[hd];exact hr.put (d:=some d) λ_ _=>rfl))
    .cases GJ hc
   .cases hc
  .split at hc
   .cases GJ hc
   .cases hc
  .split at hc
   .split at hc
    .cases GJ hc
    .cases hc
   .split at hc
    .split at hc
     .cases hc
     .cases GJ hc
    .cases hc
   .cases hc
  .split at hc
   .cases GJ hc
   .split at hc
    .cases GJ hc
    .cases hc
   .cases hc
  .cases GJ hc
  .rename_i c ho
   unfold PF at hc
   split at hc
   .split at hc
    .split at hc
     .cases GJ hc
     .cases GJ hc
     .cases hc
    .cases hc
   .rename_i hcl
    split at hc
    .rename_i t t' s x h0 h1 Ee
     split at hc
     all_goals first
      |(cases hc;done)
      | (rename_i e _ ht FJ
         split at hc
         . rename_i n b hn hb
           split at hc
           . rename_i dU
             split at hc
             . rename_i v u ha
               split at hc
               . rename_i E2
                 split at hc
                 . cases hc
                   obtain ⟨r', h3, rfl⟩ := FG
                   exact (qR ho hcl h0 h1 Ee ht (by first | exact .inl ⟨_, FJ⟩ | exact .inr FJ) hn hb E2 dU ha h3 hr).wp hK
                 . split at hc
                   . cases hc
                     obtain ⟨r', h3, rfl, rfl⟩ := FG
                     exact (Z9 ho hcl h0 h1 Ee ht (by first | exact .inl ⟨_, FJ⟩ | exact .inr FJ) hn hb E2 dU ha h3 hr).wp hK
                   . cases hc
                     obtain ⟨r', h3, rfl, rfl⟩ := FG
                     exact (fD ho hcl h0 h1 Ee ht (by first | exact .inl ⟨_, FJ⟩ | exact .inr FJ) hn hb E2 dU ha h3 hr).wp hK
               . split at hc
                 . cases hc
                   obtain ⟨r', h3, rfl⟩ := FG
                   exact (vM ho hcl h0 h1 Ee ht (by first | exact .inl ⟨_, FJ⟩ | exact .inr FJ) hn hb dU ha h3 hr).wp hK
                 . cases hc
             . cases hc
           . cases hc
         . cases hc)
    .cases hc
   .rename_i hcl
    split at hc
    .rename_i t t' s x h0 h1 Ee
     split at hc
     all_goals first
      |(cases hc;done)
      | (rename_i e _ ht FJ
         split at hc
         . rename_i n hn
           obtain ⟨args, ha, rfl⟩ := Hc hc
           obtain ⟨v, h3, rfl⟩ := FG
           obtain ⟨y1, y2, rfl, _, _⟩ := Fc hr ha
           exact (vO ho hcl h0 h1 Ee ht (by first | exact .inl ⟨_, FJ⟩ | exact .inr FJ) hn ha h3 hr).wp hK
         . cases hc)
    .cases hc
   .rename_i hcl
    split at hc
    .rename_i t s h0 Ee
     split at hc
     .rename_i e ht
      split at hc
      .rename_i n z hn hz
       obtain⟨args,ha,rfl⟩:=Hc hc
       obtain⟨v,h3,rfl⟩:=FG
       obtain⟨y1,rfl,_⟩:=F8 hr ha
       exact(qU ho hcl h0 Ee ht hn hz ha h3 hr).wp hK
      .cases hc
     .cases hc
    .cases hc
   .split at hc
    .cases GJ hc
    .cases hc
   .split at hc
    .cases GJ hc
    .cases hc
   .rename_i f hcl
    split at hc
    .rename_i hf
     split at hc
     .rename_i s i x Ee
      split at hc
      .rename_i E2
       obtain⟨args,ha,rfl⟩:=Hc hc
       obtain⟨v,h3,rfl⟩:=FG
       exact fj hS ho hcl hf Ee E2 ha h3 hr λγ' v w' Fy=>hK _ _ _ _ Fy
      .cases hc
     .cases hc
    split at hc
    rotate_left
    .cases hc
    rename_i Wg
    rw[<-Wg] at hcl
    cases ha:Bq C σ c.args.toList with
    |none=>rw[ha] at hc;cases hc
    |some args=>
     rw[ha] at hc
     simp only[BR,BC] at hc
     split at hc
     .cases hc
      obtain⟨GI,rv,h1,h2,h3,rfl,rfl⟩:=FG
      exact qP hS ho hcl ha GI h2 h3 hr λγ' v w' Fy=>hK _ _ _ _ Fy
     .cases hc
      obtain⟨rv,h1,rfl⟩:=FG
      exact vG hS ho hcl ha h1 hr λγ' v w' Fy=>hK _ _ _ _ Fy
   .rename_i g hn hcl
    split at hc
    .rename_i gv args hg ha
     cases hc
     obtain⟨f,args',rv,h0,h1,rfl⟩:=FG
     exact qQ hS ho hcl hg ha h0 h1 hr λγ' v w' Fy=>hK _ _ _ _ Fy
    .cases hc
   .cases hc
  .cases hc
end
end Go.Am
end
section
namespace Go.Am
open Go
section
variable{C:FI}{σ τ:BD}{fid:FuncId}{ops:List Oper}
theorem Yg{x:Operand}(h:∀t,x= .tmp t->τ.at t=σ.at t):DJ C τ x=DJ C σ x:=by
 cases x with
 |tmp t=>simp only[DJ,h t rfl]
 |const v=>
  cases v with
  |slice a b c=>cases a<;>cases b<;>cases c<;>rfl
  |_=>rfl
 |global g=>rfl
 |func f=>rfl
def TS(C:FI)(σ τ:BD)(xs:List Operand):Prop:=∀x∈xs,DJ C τ x=DJ C σ x
theorem TS.kW{xs:List Operand}(h:∀t∈Jv xs,τ.at t=σ.at t):TS C σ τ xs:=λx hx=>Yg λt ht=>h t (by subst ht;exact Ci.2 ⟨_,hx,rfl⟩)
theorem TS.val{xs:List Operand}(h:TS C σ τ xs){x:Operand}(hx:x∈xs):Es C τ x=Es C σ x:=by unfold Es;rw[h x hx]
theorem TS.JB{xs:List Operand}(h:TS C σ τ xs):∀{ys:List Operand},(∀y∈ys,y∈xs)->Bq C τ ys=Bq C σ ys
 |[],_=>rfl
 |y::ys,hy=>by unfold Bq;rw[h.val (hy y (by simp)),h.JB λz hz=>hy z (by simp[hz])]
theorem TS.move{xs:List Operand}(h:TS C σ τ xs){x:Operand}(hx:x∈xs)(d:Nat)(take:Bool):Ju C τ x d take=Ju C σ x d take:=by unfold Ju;rw[h x hx]
theorem TS.own{xs:List Operand}(h:TS C σ τ xs){x:Operand}(hx:x∈xs):JZ C τ x=JZ C σ x:=by unfold JZ;rw[h x hx]
theorem TS.Dm{xs:List Operand}(h:TS C σ τ xs){x:Operand}(hx:x∈xs):CZ τ x=CZ σ x:=by
 cases x with
 |tmp t=>have:=h _ hx;simp only[DJ,BC] at this;simp only[CZ,this]
 |_=>rfl
theorem TS.Gv{xs:List Operand}(h:TS C σ τ xs):∀{ys:List Operand},(∀y∈ys,y∈xs)->Am.Gv C τ ys=Am.Gv C σ ys
 |[],_=>rfl
 |y::ys,hy=>by unfold Am.Gv;rw[h y (hy y (by simp)),h.Gv λz hz=>hy z (by simp[hz])]
theorem TS.addr{xs:List Operand}(h:TS C σ τ xs){x:Operand}(hx:x∈xs)(hb:∀s∈(MF C σ x).toList,τ.at s=σ.at s)(hn:Fu C σ x≠none):Fu C τ x=Fu C σ x:=by
 have MA:=h x hx;cases hs:DJ C σ x with
 |none=>unfold Fu at hn;rw[hs] at hn;exact absurd (by split<;>simp_all) hn
 |some sl=>
  rw[hs] at MA;cases sl with
  |EG s o=>
   have h1:∀ρ:BD,DJ C ρ x=some (.EG s o)->Fu C ρ x=match ρ.at s with| .box ver cs ow=>some (.NI s o ver cs ow)|_=>none:=λρ hρ=>by unfold Fu;rw[hρ];cases x<;>rfl
   rw[h1 σ hs] at hn⊢;rw[h1 τ MA];have h2:s∈(MF C σ x).toList:=by
    unfold MF;rw[h1 σ hs];cases Sw:σ.at s with
    |box ver cs ow=>simp
    |_=>rw[Sw] at hn;exact absurd rfl hn
   rw[hb s h2]
  |_=>unfold Fu;rw[hs,MA];cases x<;>rfl
theorem TS.load{xs:List Operand}(h:TS C σ τ xs){x:Operand}(hx:x∈xs)(hb:∀s∈(MF C σ x).toList,τ.at s=σ.at s){t:TypeId}{d:Nat}{take:Bool}{r:Er}(hc:Kp C σ t x d take=some r):Kp C τ t x d take=some r:=by
 have hn:Fu C σ x≠none:=λhe=>by unfold Kp at hc;rw[he] at hc;split at hc<;>simp_all
 unfold Kp at hc⊢;rw[h.addr hx hb hn];exact hc
theorem TS.store{xs:List Operand}(h:TS C σ τ xs){x y:Operand}(hx:x∈xs)(hy:y∈xs)(hb:∀s∈(MF C σ x).toList,τ.at s=σ.at s){t:TypeId}{r:Er}(hc:IA C σ t x y=some r):IA C τ t x y=some r:=by
 have hn:Fu C σ x≠none:=λhe=>by unfold IA at hc;rw[he] at hc;split at hc<;>simp_all
 unfold IA at hc⊢;rw[h.addr hx hb hn,h.val hy,h.own hy,h.Dm hy];exact hc
theorem TS.call{c:Call}(h:TS C σ τ c.operands.toList)(dst:Option Nat):PF C fid τ c dst=PF C fid σ c dst:=by
 have ha:∀y∈c.args.toList,y∈c.operands.toList:=λy hy=>by unfold Call.operands;rw[Js];exact BU _ hy
 have hv:Bq C τ c.args.toList=Bq C σ c.args.toList:=h.JB ha;unfold PF;split;·rw[hv]
 .split
  .rename_i Ee;have h1:∀{s x:Operand},c.args.toList=[s,x]->JZ C τ s=JZ C σ s/\CZ τ s=CZ σ s/\Bq C τ [s,x]=Bq C σ [s,x]:=λ{s x} he=>by rw[he] at ha;exact⟨h.own (ha s (by simp)),h.Dm (ha s (by simp)),h.JB λy hy=>ha y hy⟩
   obtain⟨e1,e2,e3⟩:=h1 Ee;rw[e1,e2,e3]
  .rfl
 .split;·rename_i Ee;rw[Ee] at ha;rw[h.JB λy hy=>ha y hy]
  .rfl
 .split;·rename_i Ee;rw[Ee] at ha;rw[h.JB λy hy=>ha y hy]
  .rfl
 .rw[hv]
 .rw[hv]
 .split
  .split;·rename_i s i v Ee;rw[Ee] at ha;rw[h.own (ha v (by simp)),h.JB λy hy=>ha y hy]
   .rfl
  .rw[hv]
 .rename_i g _ hcl;have hg:g∈c.operands.toList:=by unfold Call.operands;rw[hcl];simp
  rw[hv,h.val hg]
 .rfl
theorem UL{o:Oper}{r:Er}(hc:Fv C fid ops σ o=some r)(ht:∀t∈Jv o.op.operands.toList,τ.at t=σ.at t)(hb:∀s∈Hb C σ o,τ.at s=σ.at s):Fv C fid ops τ o=some r:=by
 have h:TS C σ τ o.op.operands.toList:= .kW ht
 unfold Fv at hc⊢
 cases ho:o.op with
 |move x=>
  rw[ho] at h
  simp only[ho] at hc⊢
  have:=λd=>h.move (x:=x) (by simp[Op.operands]) d
  simpa only[this] using hc
 |assign x=>
  rw[ho] at h
  simp only[ho] at hc⊢
  have:=λd=>h.move (x:=x) (by simp[Op.operands]) d
  simpa only[this] using hc
 |pick c a b=>
  rw[ho] at h
  simp only[ho] at hc⊢
  have h1:=λd=>h.move (x:=a) (by simp[Op.operands]) d
  have h2:=λd=>h.move (x:=b) (by simp[Op.operands]) d
  rw[h c (by simp[Op.operands]),h.JB (ys:=[c,a,b]) (by simp[Op.operands])]
  simpa only[h1,h2] using hc
 |alloc t=>rw[ho] at hc;exact hc
 |box t x=>
  rw[ho] at h
  simp only[ho] at hc⊢
  rw[h.val (x:=x) (by simp[Op.operands])]
  exact hc
 |build t parts=>
  rw[ho] at h
  simp only[ho] at hc⊢
  rw[h.JB (ys:=parts.toList.map (·.2)) (by simp[Op.operands])]
  exact hc
 |buildSlice t len parts=>
  rw[ho] at h
  simp only[ho] at hc⊢
  rw[h.JB (ys:=parts.toList.map (·.2)) (by simp[Op.operands])]
  exact hc
 |load t x=>
  rw[ho] at h
  simp only[ho] at hc⊢
  split at hc
  .exact h.load (by simp[Op.operands]) (λs hs=>hb s (by simpa only[Hb,ho] using hs)) hc
  .cases hc
 |store t x y=>
  rw[ho] at h
  simp only[ho] at hc⊢
  split at hc
  .exact h.store (by simp[Op.operands]) (by simp[Op.operands]) (λs hs=>hb s (by simpa only[Hb,ho] using hs)) hc
  .cases hc
 |nilCheck x=>
  rw[ho] at h
  simp only[ho] at hc⊢
  have e2:=h.JB (ys:=[x]) (by simp[Op.operands])
  rw[h x (by simp[Op.operands])]
  cases hs:DJ C σ x with
  |none=>rw[hs] at hc;cases x<;>cases hd:o.dst<;>rw[hd] at hc<;>first|exact hc|(show Rx _ _ (Bq C τ [_])=some r;rw[e2];exact hc)
  |some sl=>rw[hs] at hc;cases sl<;>cases x<;>cases hd:o.dst<;>rw[hd] at hc<;>first|exact hc|(show Rx _ _ (Bq C τ [_])=some r;rw[e2];exact hc)
 |binOp op t x y k=>
  rw[ho] at h
  simp only[ho] at hc⊢
  rw[h.JB (ys:=[x,y]) (by simp[Op.operands])]
  exact hc
 |unOp op t x=>
  rw[ho] at h
  simp only[ho] at hc⊢
  rw[h.JB (ys:=[x]) (by simp[Op.operands])]
  exact hc
 |convert src dst x=>
  rw[ho] at h
  simp only[ho] at hc⊢
  rw[h.JB (ys:=[x]) (by simp[Op.operands]),h.val (x:=x) (by simp[Op.operands])]
  exact hc
 |makeFunc fn first captured=>
  rw[ho] at h
  simp only[ho] at hc⊢
  rw[h.JB (ys:=first.toList) (λ_ hm=>by simp[Op.operands,hm]),h.Gv (ys:=captured.toList) (λ_ hm=>by simp[Op.operands,hm])]
  exact hc
 |makeMap t r'=>
  rw[ho] at hc
  cases r' with
  |none=>exact hc
  |some _=>cases hc
 |makeSlice t l c=>
  rw[ho] at h
  simp only[ho] at hc⊢
  rw[h.val (x:=l) (by simp[Op.operands]),h.val (x:=c) (by simp[Op.operands])]
  exact hc
 |insert t m k v=>
  rw[ho] at h
  simp only[ho] at hc⊢
  rw[h.JB (ys:=[m,k,v]) (by simp[Op.operands])]
  exact hc
 |mapUpdate t m k v=>
  rw[ho] at h
  simp only[ho] at hc⊢
  rw[h.JB (ys:=[m,k,v]) (by simp[Op.operands])]
  exact hc
 |lookup t m k ok=>
  rw[ho] at h
  simp only[ho] at hc⊢
  rw[h.JB (ys:=[m,k]) (by simp[Op.operands])]
  exact hc
 |slice t x lo hi mx=>
  rw[ho] at h hc
  cases mx with
  |none=>
   have e2:=h.JB (ys:=x::(lo.toList++hi.toList)) (by cases lo<;>cases hi<;>simp[Op.operands])
   simp only at hc⊢
   rw[e2]
   exact hc
  |some mx=>cases lo with
   |none=>cases hc
   |some lo=>cases hi with
    |none=>cases hc
    |some hi=>
     have e2:=h.JB (ys:=[x,lo,hi,mx]) (by simp[Op.operands])
     simp only at hc⊢
     rw[e2]
     exact hc
 |makeInterface t x=>
  rw[ho] at h
  simp only[ho] at hc⊢
  rw[h.JB (ys:=[x]) (by simp[Op.operands])]
  exact hc
 |mapEntry t m k=>
  rw[ho] at h
  simp only[ho] at hc⊢
  rw[h.JB (ys:=[m,k]) (by simp[Op.operands])]
  exact hc
 |entryStore t m s v=>
  rw[ho] at h
  simp only[ho] at hc⊢
  rw[h.JB (ys:=[m,s,v]) (by simp[Op.operands])]
  exact hc
 |fieldAddr t x f=>
  rw[ho] at h
  simp only[ho] at hc⊢
  have e2:=h.JB (ys:=[x]) (by simp[Op.operands])
  rw[h x (by simp[Op.operands])]
  cases hf:HF C.P t f with
  |none=>rw[hf] at hc;cases hc
  |some q=>
   rw[hf] at hc
   cases hd:o.dst with
   |none=>rw[hd] at hc;cases hc
   |some d=>
    rw[hd] at hc
    cases hs:DJ C σ x with
    |none=>rw[hs] at hc;cases x<;>first|exact hc|(show Rx _ _ (Bq C τ [_])=some r;rw[e2];exact hc)
    |some sl=>rw[hs] at hc;cases sl<;>cases x<;>first|exact hc|(show Rx _ _ (Bq C τ [_])=some r;rw[e2];exact hc)
 |field t x f=>
  rw[ho] at h
  simp only[ho] at hc⊢
  rw[h.JB (ys:=[x]) (by simp[Op.operands])]
  exact hc
 |indexAddr t x i=>
  rw[ho] at h
  simp only[ho] at hc⊢
  rw[h.JB (ys:=[x,i]) (by simp[Op.operands])]
  exact hc
 |index t x i=>
  rw[ho] at h
  simp only[ho] at hc⊢
  rw[h.JB (ys:=[x,i]) (by simp[Op.operands])]
  exact hc
 |extract x i=>
  rw[ho] at h
  simp only[ho] at hc⊢
  rw[h.JB (ys:=[x]) (by simp[Op.operands])]
  exact hc
 |call c=>
  rw[ho] at h
  simp only[ho] at hc⊢
  rw[h.call]
  exact hc
 |_=>simp only[ho] at hc;cases hc
end
end Go.Am
end
section
namespace Go.Am
open Go
mutual
theorem Aa.UM:∀{a b:Aa},Aa.beq a b=true->a=b
 | .bool a,b,h=>by cases b<;>simp[Aa.beq] at h⊢;exact h
 | .int k a,b,h=>by cases b<;>simp[Aa.beq] at h⊢;exact h
 | .str a,b,h=>by cases b<;>simp[Aa.beq] at h⊢;exact h
 | .ptr a,b,h=>by cases b<;>simp[Aa.beq] at h⊢;exact h
 | .CA a,b,h=>by cases b<;>simp[Aa.beq] at h⊢;exact Aa.MR h
 | .sl n a,b,h=>by cases b<;>simp[Aa.beq] at h⊢;exact⟨h.1,Aa.aJ h.2⟩
 | .slnil,b,h=>by cases b<;>simp[Aa.beq] at h⊢
 | .Cm a c d e,b,h=>by cases b<;>simp[Aa.beq] at h⊢;exact⟨h.1.1.1,h.1.1.2,h.1.2,h.2⟩
 | .map a,b,h=>by cases b<;>simp[Aa.beq] at h⊢;exact h
 | .func f a c,b,h=>by cases b<;>simp[Aa.beq] at h⊢;exact⟨h.1.1,Aa.MR h.1.2,Aa.MR h.2⟩
 | .nilFunc,b,h=>by cases b<;>simp[Aa.beq] at h⊢
 | .iface t a,b,h=>by cases b<;>simp[Aa.beq] at h⊢;exact⟨h.1,Aa.UM h.2⟩
 | .nilIface,b,h=>by cases b<;>simp[Aa.beq] at h⊢
 | .agg a,b,h=>by cases b<;>simp[Aa.beq] at h⊢;exact Aa.MR h
 | .tuple a,b,h=>by cases b<;>simp[Aa.beq] at h⊢;exact Aa.MR h
theorem Aa.MR:∀{a b:List Aa},Aa.Qn a b=true->a=b
 |[],b,h=>by cases b<;>simp[Aa.Qn] at h⊢
 |a::x,b,h=>by
  cases b with
  |nil=>simp[Aa.Qn] at h
  |cons c y=>simp[Aa.Qn] at h⊢;exact⟨Aa.UM h.1,Aa.MR h.2⟩
theorem Aa.aJ:∀{a b:List (List Aa)},Aa.Qo a b=true->a=b
 |[],b,h=>by cases b<;>simp[Aa.Qo] at h⊢
 |a::x,b,h=>by
  cases b with
  |nil=>simp[Aa.Qo] at h
  |cons c y=>simp[Aa.Qo] at h⊢;exact⟨Aa.MR h.1,Aa.aJ h.2⟩
end
theorem BD.IS(σ:BD):∀(a b:List (Nat×D6)),σ.Ec (a++b)=(σ.Ec a).Ec b
 |[],_=>rfl
 |(s,x)::a,b=>BD.IS (σ.set s x) a b
theorem BD.IU:∀(ws:List (Nat×D6)) (σ:BD),(σ.Ec ws).length=σ.length
 |[],_=>rfl
 |(s,x)::ws,σ=>by rw[BD.Ec,BD.IU ws];simp
theorem BD.UN(σ:BD)(s t:Nat)(x:D6):BD.at (σ.set s x) t=if s=t/\t<σ.length then x else σ.at t:=by
 by_cases h:s=t
 .subst h;by_cases hl:s<σ.length;·simp[BD.at,List.getD,hl]
  .simp[BD.at,List.getD,hl]
 .simp[BD.at,List.getD,Aj h,h]
theorem BD.F9:∀(ws:List (Nat×D6)) (σ:BD) (t:Nat),(∀p∈ws,p.1≠t)->(σ.Ec ws).at t=σ.at t
 |[],_,_,_=>rfl
 |(s,x)::ws,σ,t,h=>by rw[BD.Ec,BD.F9 ws _ t λp hp=>h p (by simp[hp]),BD.UN,if_neg];exact λe=>h (s,x) (by simp) e.1
theorem BD.UO:∀(ws:List (Nat×D6)) (σ:BD) (t:Nat),(σ.Ec ws).at t=σ.at t\/∃p∈ws,p.1=t/\(σ.Ec ws).at t=p.2
 |[],_,_=> .inl rfl
 |(s,x)::ws,σ,t=>by
  rcases BD.UO ws (σ.set s x) t with h|⟨p,hp,h1,h2⟩
  .rw[BD.UN] at h;by_cases hc:s=t/\t<σ.length;·rw[if_pos hc] at h;exact .inr ⟨(s,x),by simp,hc.1,h⟩
   .rw[if_neg hc] at h;exact .inl h
  .exact .inr ⟨p,by simp[hp],h1,h2⟩
theorem BD.Is:∀(ws:List (Nat×D6)) (σ τ:BD) (t:Nat),τ.length=σ.length->τ.at t=σ.at t->(τ.Ec ws).at t=(σ.Ec ws).at t
 |[],_,_,_,_,h=>h
 |(s,x)::ws,σ,τ,t,hl,h=>by refine BD.Is ws _ _ t (by simpa using hl) ?_;rw[BD.UN,BD.UN,hl,h]
theorem BD.ext{σ τ:BD}(hl:τ.length=σ.length)(h:∀t,τ.at t=σ.at t):τ=σ:=by apply List.ext_getElem hl;intro i h1 h2;have:=h i;simpa[BD.at,List.getD,h1,h2] using this
theorem BD.qW{σ:BD}{a b:List (Nat×D6)}(h:∀p∈a,∀q∈b,p.1≠q.1):(σ.Ec a).Ec b=(σ.Ec b).Ec a:=by
 refine BD.ext (by simp[BD.IU]) λt=>?_;by_cases ha:∀p∈a,p.1≠t;·rw[BD.F9 a (σ.Ec b) t ha];exact BD.Is b _ _ t (by simp[BD.IU]) (BD.F9 a σ t ha)
 .have⟨p,hp,hpt⟩:∃p∈a,p.1=t:=Classical.byContradiction λhn=>ha λp hp e=>hn ⟨p,hp,e⟩;have hb:∀q∈b,q.1≠t:=λq hq e=>h p hp q hq (by rw[hpt,e]);rw[BD.F9 b (σ.Ec a) t hb];exact(BD.Is a _ _ t (by simp[BD.IU]) (BD.F9 b σ t hb)).symm
theorem MS{σ:BD}{ds:List Nat}:LO σ ds=true↔∀x t o,σ.at x= .EG t o->t∉ds:=by
 unfold LO;rw[EJ];constructor
 .intro h x t o hx;by_cases hl:x<σ.length;·have:=h (σ.at x) (by simp[BD.at,List.getD,hl]);rw[hx] at this;simpa using this
  .simp[BD.at,List.getD,hl] at hx
 .intro h s hs;obtain⟨i,hi⟩:=CT hs;cases s with
  |EG t o=>have:=h i t o (by simp[BD.at,List.getD,hi]);simpa using this
  |_=>rfl
theorem qX{a b:List Nat}:Su a b=true↔∃x,x∈a/\x∈b:=by simp[Su]
structure St where
 idx:Nat
 fp:FP
 fl:Option Jo
def JT(i:Nat)(r:Er)(σ:BD):Option Jo:=
 match r with
 | .load n p (some d)=>match σ.at d with
  | .val v=>some {idx:=i,n,p,v}
  |_=>none
 |_=>none
theorem UP(i:Nat)(r:Er)(σ:BD)(fl:List Jo):Ls i r σ fl=(JT i r σ).toList++fl:=by
 cases r with
 |load n p dst=>
  cases dst with
  |none=>rfl
  |some d=>simp only[Ls,JT];cases σ.at d<;>rfl
 |_=>rfl
theorem Wz{i:Nat}{r:Er}{σ τ:BD}(h:∀d∈r.wf,τ.at d=σ.at d):JT i r τ=JT i r σ:=by
 cases r with
 |load n p dst=>
  cases dst with
  |none=>rfl
  |some d=>simp only[JT];rw[h d (by simp[Er.wf])]
 |_=>rfl
def Lw(d:Option Nat)(σ σ':BD):Prop:=
 match d with
 |none=>σ'=σ
 |some d=>match σ.at d with
  | .val v=>∃b,v= .bool b/\σ'=σ.set d (.Nq b)
  |_=>σ'=σ
section
variable{C:FI}{fid:FuncId}{ops:List Oper}{run:IT->Ae->Option Jn}{σ τ σ':BD}{h h':Ae}
def NU(C:FI)(fid:FuncId)(ops:List Oper)(run:IT->Ae->Option Jn)(s:St)(σ:BD)(h:Ae)(σ':BD)(h':Ae):Prop:=
 ∃o,ops[s.idx]?=some o/\
  ((HT ops σ o = .L6 false /\ s.fp = Ta C ops σ o none /\ s.fl = none /\ σ' = σ.put o.dst .skip /\ h' = h) \/
   ∃ r σ1, HT ops σ o = .L6 true /\ Fv C fid ops σ o = some r /\ s.fp = Ta C ops σ o (some r) /\ r.L9 C run (σ.drop r.news) h σ1 h' /\ s.fl = JT s.idx r σ1 /\
     Lw (if Qs ops s.idx then o.dst else none) σ1 σ')
theorem UQ(σ:BD)(d:Option Nat)(x:D6):σ.put d x=σ.Ec (d.toList.map λs=>(s,x)):=by cases d<;>rfl
theorem qY(σ:BD)(d:Option (Nat×Aa)):σ.Dm d=σ.Ec (d.toList.map λp=>(p.1,.val p.2)):=by cases d<;>rfl
theorem Xj{r:Er}(hd:r.L9 C run σ h σ' h'):∃ws,σ'=σ.Ec ws/\(∀p∈ws,p.1∈r.wf)/\(∀p∈ws,∀t o,p.2= .EG t o->t∈r.kK)/\∀τ,r.L9 C run τ h (τ.Ec ws) h':=by
 have one:∀(d:Option Nat) (x:D6),(∀t o,x≠ .EG t o)->σ'=σ.put d x->d.toList⊆r.wf->(∀τ,r.L9 C run τ h (τ.put d x) h')->
   ∃ws,σ'=σ.Ec ws/\(∀p∈ws,p.1∈r.wf)/\(∀p∈ws,∀t o,p.2= .EG t o->t∈r.kK)/\∀τ,r.L9 C run τ h (τ.Ec ws) h':=by
  intro d x hx he hw ht;refine⟨d.toList.map λs=>(s,x),by rw[<-UQ];exact he,λp hp=>?_,λp hp t o hl=>?_,λτ=>by rw[<-UQ];exact ht τ⟩;·obtain⟨s,hs,rfl⟩:=Bk.1 hp;exact hw hs
  .obtain⟨s,hs,rfl⟩:=Bk.1 hp;exact absurd hl (hx t o)
 have ZW:∀(dem:Option (Nat×Aa)) (d:Option Nat) (x:D6),(∀t o,x≠ .EG t o)->σ'=(σ.Dm dem).put d x->d.toList⊆r.wf->(dem.map (·.1)).toList⊆r.wf->(∀τ,r.L9 C run τ h ((τ.Dm dem).put d x) h')->
   ∃ws,σ'=σ.Ec ws/\(∀p∈ws,p.1∈r.wf)/\(∀p∈ws,∀t o,p.2= .EG t o->t∈r.kK)/\∀τ,r.L9 C run τ h (τ.Ec ws) h':=by
  intro dem d x hx he hw vV ht;have e:∀τ:BD,(τ.Dm dem).put d x=τ.Ec ((dem.toList.map λp=>(p.1,.val p.2))++d.toList.map λs=>(s,x)):=λτ=>by rw[BD.IS,<-qY,<-UQ]
  refine⟨_,by rw[he,e],λp hp=>?_,λp hp t o hl=>?_,λτ=>by rw[<-e];exact ht τ⟩
  .rcases Ao.1 hp with hp|hp
   .obtain⟨q,hq,rfl⟩:=Bk.1 hp;exact vV (by cases dem<;>simp_all)
   .obtain⟨s,hs,rfl⟩:=Bk.1 hp;exact hw hs
  .rcases Ao.1 hp with hp|hp
   .obtain⟨q,hq,rfl⟩:=Bk.1 hp;cases hl
   .obtain⟨s,hs,rfl⟩:=Bk.1 hp;exact absurd hl (hx t o)
 cases r with
 |pure ws=>obtain⟨rfl,rfl⟩:=hd;refine⟨ws,rfl,λp hp=>Bk.2 ⟨p,hp,rfl⟩,λp hp t o hl=>?_,λτ=>⟨rfl,rfl⟩⟩;exact Ci.2 ⟨p.2,Bk.2 ⟨p,hp,rfl⟩,by rw[hl]⟩
 |op p args dst own dem=>obtain⟨v,hv,rfl,rfl⟩:=hd;exact ZW dem dst _ (by cases own<;>simp) rfl (by simp[Er.wf]) (by simp[Er.wf]) λτ=>⟨v,hv,rfl,rfl⟩
 |box n v d=>obtain⟨hn,rfl,rfl⟩:=hd;exact one (some d) _ (by simp) rfl (by simp[Er.wf]) λτ=>⟨hn,rfl,rfl⟩
 |KC fn x b fz d=>
  obtain⟨rfl,rfl⟩:=hd;refine⟨(fz.map λ(s,cs)=>(s,.val (.CA cs)))++[(d,.val (.func fn x b))],by rw[BD.IS];rfl,λp hp=>?_,λp hp t o hl=>?_,λτ=>⟨by rw[BD.IS];rfl,rfl⟩⟩
  .rcases Ao.1 hp with hp|hp
   .obtain⟨q,hq,rfl⟩:=Bk.1 hp;exact List.mem_cons_of_mem _ (Bk.2 ⟨q,hq,rfl⟩)
   .simp at hp;subst hp;simp[Er.wf]
  .rcases Ao.1 hp with hp|hp
   .obtain⟨q,hq,rfl⟩:=Bk.1 hp;cases hl
   .simp at hp;subst hp;cases hl
 |LN s off n v own dem ver cells owned=>obtain⟨hn,rfl,rfl⟩:=hd;exact ZW dem (some s) _ (by simp) rfl (by simp[Er.wf]) (by simp[Er.wf]) λτ=>⟨hn,rfl,rfl⟩
 |load n p dst=>obtain⟨v,hv,rfl,rfl⟩:=hd;exact one dst _ (by simp) rfl (by simp[Er.wf]) λτ=>⟨v,hv,rfl,rfl⟩
 |store n p v=>obtain⟨hv,rfl⟩:=hd;exact one none .undef (by simp) rfl (by simp) λτ=>⟨hv,rfl⟩
 |alloc n v dst=>obtain⟨hn,rfl,rfl⟩:=hd;exact one dst _ (by simp) rfl (by simp[Er.wf]) λτ=>⟨hn,rfl,rfl⟩
 |call f args dst=>obtain⟨v,hv,rfl⟩:=hd;exact one dst _ (by intro t o;split<;>simp) rfl (by simp[Er.wf]) λτ=>⟨v,hv,rfl⟩
 |FH g args dst=>obtain⟨f,x,v,h1,h2,rfl⟩:=hd;exact one dst _ (by simp) rfl (by simp[Er.wf]) λτ=>⟨f,x,v,h1,h2,rfl⟩
 |Be f args dst=>obtain⟨GI,v,h1,h2,h3,rfl,rfl⟩:=hd;exact one dst _ (by simp) rfl (by simp[Er.wf]) λτ=>⟨GI,v,h1,h2,h3,rfl,rfl⟩
 |OY dst=>obtain⟨rfl,rfl⟩:=hd;exact one dst _ (by simp) rfl (by simp[Er.wf]) λτ=>⟨rfl,rfl⟩
 |JY m k v=>obtain⟨hv,rfl⟩:=hd;exact one none .undef (by simp) rfl (by simp) λτ=>⟨hv,rfl⟩
 |L5 z ok m k dst=>obtain⟨v,hv,rfl,rfl⟩:=hd;exact one dst _ (by simp) rfl (by simp[Er.wf]) λτ=>⟨v,hv,rfl,rfl⟩
 |make z b zero l c dst=>obtain⟨v,hv,rfl⟩:=hd;exact one dst _ (by simp) rfl (by simp[Er.wf]) λτ=>⟨v,hv,rfl⟩
 |Ht z b s x dst dem=>obtain⟨v,hv,rfl⟩:=hd;exact ZW dem dst _ (by simp) rfl (by simp[Er.wf]) (by simp[Er.wf]) λτ=>⟨v,hv,rfl⟩
 |Ft z b s x dst=>obtain⟨v,hv,rfl⟩:=hd;exact one dst _ (by simp) rfl (by simp[Er.wf]) λτ=>⟨v,hv,rfl⟩
 |FY z b s x dst dem=>obtain⟨v,hv,rfl,rfl⟩:=hd;exact ZW dem dst _ (by simp) rfl (by simp[Er.wf]) (by simp[Er.wf]) λτ=>⟨v,hv,rfl,rfl⟩
 |E9 s dst=>obtain⟨v,hv,rfl⟩:=hd;exact one dst _ (by simp) rfl (by simp[Er.wf]) λτ=>⟨v,hv,rfl⟩
 |S7 s dst=>obtain⟨v,u,h1,h2,rfl⟩:=hd;exact one dst _ (by simp) rfl (by simp[Er.wf]) λτ=>⟨v,u,h1,h2,rfl⟩
 |mem o args dst=>obtain⟨v,hv,rfl⟩:=hd;exact one dst _ (by intro t o';split<;>simp) rfl (by simp[Er.wf]) λτ=>⟨v,hv,rfl⟩
theorem RI{r:Er}(hd:r.L9 C run σ h σ' h')(he:r.Qk=false):h'=h/\
  (r.hl=false->∀h2,r.L9 C run σ h2 σ' h2)/\
  ∀n p d,r= .load n p (some d)->∃v,Bb h n p=some v/\σ'=σ.set d (.val v)/\∀h2,Bb h2 n p=some v->r.L9 C run σ h2 σ' h2:=by
 cases r<;>simp only[Er.Qk] at he<;>try(exact absurd he (by decide))
 case pure ws=>obtain⟨rfl,rfl⟩:=hd;exact⟨rfl,λ_ _=>⟨rfl,rfl⟩,by simp⟩
 case op p args dst own dem=>obtain⟨v,hv,rfl,rfl⟩:=hd;exact⟨rfl,λ_ _=>⟨v,hv,rfl,rfl⟩,by simp⟩
 case box n v d=>obtain⟨hn,rfl,rfl⟩:=hd;exact⟨rfl,λ_ _=>⟨hn,rfl,rfl⟩,by simp⟩
 case KC fn x b fz d=>obtain⟨rfl,rfl⟩:=hd;exact⟨rfl,λ_ _=>⟨rfl,rfl⟩,by simp⟩
 case LN s off n v own dem ver cells owned=>obtain⟨hn,rfl,rfl⟩:=hd;exact⟨rfl,λ_ _=>⟨hn,rfl,rfl⟩,by simp⟩
 case load n p dst=>obtain⟨v,hv,rfl,rfl⟩:=hd;refine⟨rfl,λhh=>absurd hh (by simp[Er.hl]),λn' p' d he=>?_⟩;cases he;exact⟨v,hv,rfl,λh2 h2v=>⟨v,h2v,rfl,rfl⟩⟩
 case L5 z ok m k dst=>obtain⟨v,hv,rfl,rfl⟩:=hd;exact⟨rfl,λhh=>absurd hh (by simp[Er.hl]),by simp⟩
 case Be f args dst=>obtain⟨GI,v,h1,h2,h3,rfl,rfl⟩:=hd;exact⟨rfl,λ_ _=>⟨GI,v,h1,h2,h3,rfl,rfl⟩,by simp⟩
theorem SG{ds:List Nat}(hn:LO σ ds=true):σ.drop ds=σ:=by
 refine BD.ext (BD.length_drop σ ds) λt=>?_;rw[BD.TQ];cases hx:σ.at t with
 |EG t' o=>have:=MS.1 hn t t' o hx;simp[this]
 |_=>rfl
theorem Pd{o:Oper}(h:∀t∈EY ops o,τ.at t=σ.at t):HT ops τ o=HT ops σ o:=by
 unfold HT;unfold EY at h;cases hg:o.guard with
 |none=>rfl
 |some g=>
  obtain⟨j,want⟩:=g;rw[hg] at h;simp only at h⊢;cases hd:(ops[j]?).bind (·.dst) with
  |none=>rfl
  |some s=>
   rw[hd] at h;simp only
   rw[h s (by simp)]
theorem Tj{o:Oper}{r:Er}(hc:Fv C fid ops σ o=some r)(ht:∀t∈Jv o.op.operands.toList,τ.at t=σ.at t)(hb:∀s∈Hb C σ o,τ.at s=σ.at s):Hb C τ o=Hb C σ o:=by
 have h:TS C σ τ o.op.operands.toList:= .kW ht
 unfold Hb at hb⊢
 cases ho:o.op with
 |load t x=>
  rw[ho] at h hb
  simp only at hb⊢
  have hn:Fu C σ x≠none:=λhe=>by
   unfold Fv at hc
   simp only[ho] at hc
   split at hc
   .unfold Kp at hc;rw[he] at hc;split at hc<;>simp_all
   .cases hc
  unfold MF
  rw[h.addr (by simp[Op.operands]) hb hn]
 |store t x y=>
  rw[ho] at h hb
  simp only at hb⊢
  have hn:Fu C σ x≠none:=λhe=>by
   unfold Fv at hc
   simp only[ho] at hc
   split at hc
   .unfold IA at hc;rw[he] at hc;split at hc<;>simp_all
   .cases hc
  unfold MF
  rw[h.addr (by simp[Op.operands]) hb hn]
 |_=>rfl
theorem SH{xs:List D6}{t o:Nat}(h: .EG t o∈xs):t∈TN xs:=Ci.2 ⟨_,h,rfl⟩
theorem NU.spec{s:St}(hs:NU C fid ops run s σ h σ' h')(hf:s.fp.Rz=true):
  ∃ws,σ'=σ.Ec ws/\(∀p∈ws,p.1∈s.fp.wf)/\(∀p∈ws,∀t o,p.2= .EG t o->t∈s.fp.lr)/\(∀x∈s.fp.wf,∀t o,σ.at x= .EG t o->t∈s.fp.lr)/\LO σ s.fp.news=true/\(s.fp.Qk=false->h'=h)/\
   (s.fp.Qk=false->s.fp.hl=true->∃f,s.fl=some f)/\
   ∀(τ:BD) (h2 Xk:Ae),τ.length=σ.length->(∀x∈s.fp.rs++s.fp.wf,τ.at x=σ.at x)->LO τ s.fp.news=true->
    ((h2=h/\Xk=h')\/(s.fp.Qk=false/\Xk=h2/\(s.fp.hl=true->∀f,s.fl=some f->Bb h2 f.n f.p=some f.v)))->NU C fid ops run s τ h2 (τ.Ec ws) Xk:=by
 obtain⟨o,ho,⟨hg,yz,GI,rfl,rfl⟩|⟨r,σ1,hg,hc,yz,hd,GI,ha⟩⟩:=hs
 .rw[yz] at hf⊢;refine⟨o.dst.toList.map λd=>(d,.skip),UQ _ _ _,λp hp=>?_,λp hp t k hl=>?_,λx hx t k hl=>?_,MS.2 (by simp[Ta]),λ_=>rfl,λ_ hh=>absurd hh (by simp[Ta]),λτ h2 Xk hlen vW _ Ie=>?_⟩;·obtain⟨d,hd,rfl⟩:=Bk.1 hp;exact hd
  .obtain⟨d,hd,rfl⟩:=Bk.1 hp;cases hl
  .exact SH (o:=k) (Bk.2 ⟨x,hx,hl⟩)
  .have hh:Xk=h2:=by rcases Ie with⟨e1,e2⟩|⟨_,e,_⟩<;>first|exact e|rw[e1,e2]
   refine⟨o,ho,.inl ⟨?_,?_,GI,(UQ _ _ _).symm,hh⟩⟩;·rw[Pd λt ht=>vW t (CE _ ht)];exact hg
   .rw[yz];have e:o.dst.toList.map τ.at=o.dst.toList.map σ.at:=List.map_congr_left λx hx=>vW x (BU _ hx);simp only[Ta,e]
 .rw[yz] at hf⊢;have vX:r.Rz σ=true:=hf;have Nt:LO σ r.news=true:=by unfold Er.Rz at vX;rw[BK] at vX;exact vX.1
  rw[SG Nt] at hd;obtain⟨vY,rfl,hw,hlr,X3⟩:=Xj hd;have aJu:∃ws2:List (Nat×D6),σ'=(σ.Ec vY).Ec ws2/\(∀p∈ws2,o.dst=some p.1/\∃b,p.2= .Nq b)/\∀τ:BD,τ.length=σ.length->(∀x∈r.wf++o.dst.toList,τ.at x=σ.at x)->Lw (if Qs ops s.idx then o.dst else none) (τ.Ec vY) ((τ.Ec vY).Ec ws2):=by
   by_cases hig:Qs ops s.idx=true
   .rw[if_pos hig] at ha;cases QF:o.dst with
    |none=>rw[QF] at ha;exact⟨[],ha,by simp,λτ _ _=>by simp[hig,Lw,BD.Ec]⟩
    |some d=>
     rw[QF] at ha;simp only[Lw] at ha;have uc:∀τ:BD,τ.length=σ.length->(∀x∈r.wf++[d],τ.at x=σ.at x)->(τ.Ec vY).at d=(σ.Ec vY).at d:=λτ hl vW=>BD.Is vY σ τ d hl (vW d (by simp));cases hx:(σ.Ec vY).at d with
     |val v=>rw[hx] at ha;obtain⟨b,rfl,rfl⟩:=ha;refine⟨[(d,.Nq b)],rfl,by simp,λτ hl vW=>?_⟩;simp only[hig,BN,Lw];rw[uc τ hl vW,hx];exact⟨b,rfl,rfl⟩
     |_=>rw[hx] at ha;refine⟨[],ha,by simp,λτ hl vW=>?_⟩;simp only[hig,BN,Lw];rw[uc τ hl vW,hx];rfl
   .rw[if_neg hig] at ha;exact⟨[],ha,by simp,λτ _ _=>by rw[if_neg hig];rfl⟩
  obtain⟨ws2,rfl,vV,aDE⟩:=aJu;have hhl:r.hl=true->∃n p d,r= .load n p (some d)/\d<σ.length:=λhh=>by
   unfold Er.Rz at vX;rw[BK] at vX;cases r with
   |load n p dst=>
    cases dst with
    |none=>exact absurd vX.2 (by simp)
    |some d=>exact⟨n,p,d,rfl,by simpa using vX.2⟩
   |L5 _ _ _ _ _=>exact absurd vX.2 (by simp)
   |_=>simp[Er.hl] at hh
  have aDF:r.Qk=false->∀n p d,r= .load n p (some d)->d<σ.length->∃v,Bb h n p=some v/\s.fl=some {idx:=s.idx,n,p,v}:=by intro he n p d hr fK;obtain⟨v,q1,q2,_⟩:=(RI hd he).2.2 n p d hr;refine⟨v,q1,?_⟩;rw[GI,hr];simp only[JT];rw[q2,BD.ET fK]
  have aJv:∀(τ:BD) h2 Xk,((h2=h/\Xk=h')\/(r.Qk=false/\Xk=h2/\(r.hl=true->∀f,s.fl=some f->Bb h2 f.n f.p=some f.v)))->r.L9 C run τ h2 (τ.Ec vY) Xk:=by
   intro τ h2 Xk Ie;rcases Ie with⟨rfl,rfl⟩|⟨he,rfl,Wg⟩
   .exact X3 τ
   .obtain⟨_,k2,k3⟩:=RI (X3 τ) he;cases hh:r.hl with
    |false=>exact k2 hh _
    |true=>obtain⟨n,p,d,hr,fK⟩:=hhl hh;obtain⟨v,q1,q2⟩:=aDF he n p d hr fK;obtain⟨v',p1,_,p3⟩:=k3 n p d hr;rw[q1] at p1;cases p1;exact p3 _ (Wg hh _ q2)
  refine⟨vY++ws2,by rw[BD.IS],λp hp=>?_,λp hp t k hl=>?_,λx hx t k hl=>?_,Nt,λhe=>(RI hd he).1,λhe hh=>?_,λτ h2 Xk hlen vW ud Ie=>?_⟩
  .rcases Ao.1 hp with hp|hp
   .exact CE _ (hw p hp)
   .exact BU _ (by rw[(vV p hp).1];simp)
  .rcases Ao.1 hp with hp|hp
   .exact BU _ (hlr p hp t k hl)
   .obtain⟨_,b,e⟩:=vV p hp;rw[e] at hl;cases hl
  .exact CE _ (SH (o:=k) (Bk.2 ⟨x,hx,hl⟩))
  .obtain⟨n,p,d,hr,fK⟩:=hhl hh;obtain⟨v,_,q2⟩:=aDF he n p d hr fK;exact⟨_,q2⟩
  .have hrs:∀t∈EY ops o++Jv o.op.operands.toList++Hb C σ o,τ.at t=σ.at t:=λt ht=>vW t (CE _ ht);have hwf:∀t∈r.wf++o.dst.toList,τ.at t=σ.at t:=λt ht=>vW t (BU _ ht);have ht:∀t∈Jv o.op.operands.toList,τ.at t=σ.at t:=λt ht=>hrs t (by simp[ht]);have hb:∀t∈Hb C σ o,τ.at t=σ.at t:=λt ht=>hrs t (by simp[ht]);have aDG:LO τ r.news=true:=ud;refine⟨o,ho,.inr ⟨r,τ.Ec vY,?_,UL hc ht hb,?_,?_,?_,?_⟩⟩;·rw[Pd λt ht=>hrs t (by simp[ht])];exact hg
   .rw[yz];have e1:(r.wf++o.dst.toList).map τ.at=(r.wf++o.dst.toList).map σ.at:=List.map_congr_left λx hx=>hwf x hx;have e2:r.Rz τ=r.Rz σ:=by unfold Er.Rz;rw[Nt,aDG,hlen]
    simp only[Ta,e1,e2,Tj hc ht hb]
   .rw[SG aDG];exact aJv τ h2 Xk Ie
   .rw[GI];exact(Wz λd hd=>BD.Is vY σ τ d hlen (hwf d (CE _ hd))).symm
   .rw[BD.IS];exact aDE τ hlen hwf
end
end Go.Am
end
section
namespace Go.Am
open Go
section
variable{C:FI}{fid:FuncId}{ops:List Oper}{run:IT->Ae->Option Jn}{an:List Nat}
theorem KL{a b:List Nat}(h:(!Su a b)=true){x:Nat}(hx:x∈a):x∉b:=λhb=>by have:Su a b=true:=qX.2 ⟨x,hx,hb⟩;simp[this] at h
theorem swap{p s:St}{σ σa σ1:BD}{h ha h1:Ae}(hp:NU C fid ops run p σ h σa ha)(hs:NU C fid ops run s σa ha σ1 h1)(hok:PG p.fp s.fp=true)
  (Wg:s.fp.Qk=true->∀f,p.fl=some f->Bb h1 f.n f.p=some f.v):
  ∃σs TP,NU C fid ops run s σ h σs TP/\NU C fid ops run p σs TP σ1 h1/\(s.fp.Qk=true->TP=h1)/\(p.fp.Qk=true->h1=ha):=by
 unfold PG FP.apart at hok;simp only[BK] at hok;obtain⟨⟨⟨⟨pf,sf⟩,⟨⟨a1,a2⟩,a3⟩,a4⟩,he⟩,hl⟩:=hok;obtain⟨wsp,rfl,hpw,ZD,hpo,y_,hph,za,ue⟩:=hp.spec pf;obtain⟨wss,rfl,hsw,dW,hso,hsn,dT,hsf,vZ⟩:=hs.spec sf;have outp:∀x∈s.fp.rs++s.fp.wf,(σ.Ec wsp).at x=σ.at x:=λx hx=>BD.F9 wsp σ x λq hq e=>KL a1 (hpw q hq) (by rw[e];exact hx);have hnsσ:LO σ s.fp.news=true:=by
  rw[MS] at hsn⊢;intro x t o hx;by_cases hw:x∈p.fp.wf;·exact KL a3 (hpo x hw t o hx)
  .refine hsn x t o ?_;rw[BD.F9 wsp σ x λq hq e=>hw (by rw[<-e];exact hpw q hq)];exact hx
 have hlen:∀(τ:BD) (ws:List (Nat×D6)),(τ.Ec ws).length=τ.length:=λτ ws=>BD.IU ws τ;have uf:(σ.Ec wss).Ec wsp=(σ.Ec wsp).Ec wss:=(BD.qW λq hq r hr e=>by have:=KL a1 (hpw q hq);exact this (BU _ (by rw[e];exact hsw r hr))).symm
 have outs:∀x∈p.fp.rs++p.fp.wf,(σ.Ec wss).at x=σ.at x:=λx hx=>BD.F9 wss σ x λq hq e=>by
  rcases Ao.1 hx with hx|hx
  .exact KL a2 (hsw q hq) (by rw[e];exact hx)
  .exact KL a1 hx (BU _ (by rw[<-e];exact hsw q hq))
 have hnp:LO (σ.Ec wss) p.fp.news=true:=by
  rw[MS] at y_⊢;intro x t o hx;rcases BD.UO wss σ x with h0|⟨q,hq,_,h2⟩
  .exact y_ x t o (by rw[<-h0];exact hx)
  .rw[h2] at hx;exact KL a4 (dW q hq t o hx)
 by_cases Ks:s.fp.Qk=true
 .have hpe:p.fp.Qk=false:=by
   cases hq:p.fp.Qk with
   |false=>rfl
   |true=>simp[Ks,hq] at he
  have hha:ha=h:=hph hpe;subst hha;refine⟨σ.Ec wss,h1,vZ σ ha h1 (hlen σ wsp).symm (λx hx=>(outp x hx).symm) hnsσ (.inl ⟨rfl,rfl⟩),?_,λ_=>rfl,λe=>by rw[hpe] at e;cases e⟩;rw[<-uf];exact ue (σ.Ec wss) h1 h1 (hlen σ wss) outs hnp (.inr ⟨hpe,rfl,λ_ f hf=>Wg Ks f hf⟩)
 .have aDH:s.fp.Qk=false:=by simpa using Ks
  have zb:h1=ha:=dT aDH;subst zb;refine⟨σ.Ec wss,h,?_,?_,λe=>absurd e Ks,λ_=>rfl⟩
  .by_cases hpe:p.fp.Qk=true;·refine vZ σ h h (hlen σ wsp).symm (λx hx=>(outp x hx).symm) hnsσ (.inr ⟨aDH,rfl,λhh=>?_⟩);simp[hpe,hh] at hl
   .have aJy:p.fp.Qk=false:=by simpa using hpe
    have hha:=hph aJy;exact vZ σ h h (hlen σ wsp).symm (λx hx=>(outp x hx).symm) hnsσ (.inl ⟨hha.symm,hha.symm⟩)
  .rw[<-uf];exact ue (σ.Ec wss) h h1 (hlen σ wss) outs hnp (.inl ⟨rfl,rfl⟩)
inductive Steps(C:FI)(fid:FuncId)(ops:List Oper)(run:IT->Ae->Option Jn)(an:List Nat):List Jo->List St->BD->Ae->BD->Ae->Prop
 |nil {fl:List Jo} {σ:BD} {h:Ae}:Steps C fid ops run an fl [] σ h σ h
 |cons {fl:List Jo} {s:St} {L:List St} {σ σ1 σf:BD} {h h1 hf:Ae}:NU C fid ops run s σ h σ1 h1->(s.fp.Qk=true->∀f∈fl,DX an f.idx s.idx=false->Bb h1 f.n f.p=some f.v)->
  Steps C fid ops run an (s.fl.toList++fl) L σ1 h1 σf hf->Steps C fid ops run an fl (s::L) σ h σf hf
theorem Steps.sub{fl:List Jo}{L:List St}{σ σf:BD}{h hf:Ae}(hs:Steps C fid ops run an fl L σ h σf hf):∀{fl':List Jo},(∀f∈fl',f∈fl)->Steps C fid ops run an fl' L σ h σf hf:=by
 induction hs with
 |nil=>intro fl' _;exact .nil
 |cons h1 h2 _ ih=>
  intro fl' Nw;refine .cons h1 (λhe f hf hb=>h2 he f (Nw f hf) hb) (ih λf hf=>?_);rcases Ao.1 hf with hf|hf
  .exact CE _ hf
  .exact BU _ (Nw f hf)
theorem NU.zc{s:St}{σ σ':BD}{h h':Ae}(hs:NU C fid ops run s σ h σ' h'){f:Jo}(hf:s.fl=some f):f.idx=s.idx:=by
 obtain⟨o,_,⟨_,_,GI,_⟩|⟨r,σ1,_,_,_,_,GI,_⟩⟩:=hs;·rw[GI] at hf;cases hf
 .rw[GI] at hf;unfold JT at hf;split at hf
  .split at hf;·cases hf;rfl
   .cases hf
  .cases hf
theorem Steps.lt{fl:List Jo}{L:List St}{σ σf:BD}{h hf:Ae}(hs:Steps C fid ops run an fl L σ h σf hf):∀q∈L,q.idx<ops.length:=by
 induction hs with
 |nil=>simp
 |cons h1 _ _ ih=>
  intro q hq;rcases AM.1 hq with rfl|hq
  .obtain⟨o',h2,_⟩:=h1;exact(Ah.1 h2).1
  .exact ih q hq
theorem ug{s:St}{B:List St}{σf:BD}{hf:Ae}:∀{A:List St} {fl:List Jo} {σ:BD} {h:Ae},Steps C fid ops run an fl (A++s::B) σ h σf hf->(∀p∈A,PG p.fp s.fp=true/\DX an p.idx s.idx=false)->
  ∃σ1 h1,NU C fid ops run s σ h σ1 h1/\(s.fp.Qk=true->∀f∈fl,DX an f.idx s.idx=false->Bb h1 f.n f.p=some f.v)/\Steps C fid ops run an (s.fl.toList++fl) (A++B) σ1 h1 σf hf
 |[],fl,σ,h,hs,_=>by
  cases hs with
  |cons h1 h2 h3=>exact⟨_,_,h1,h2,h3⟩
 |p::A,fl,σ,h,hs,hA=>by
  cases hs with
  |cons h1 h2 h3=>
   rename_i σa ha;obtain⟨σ1,tr,k1,k2,k3⟩:=ug h3 λq hq=>hA q (by simp[hq]);obtain⟨hok,aJz⟩:=hA p (by simp);obtain⟨σs,TP,w1,w2,w3,w4⟩:=swap h1 k1 hok λhe f hf=>k2 he f (by rw[hf];simp) (by rw[h1.zc hf];exact aJz);refine⟨σs,TP,w1,λhe f hf hb=>?_,.cons w2 (λhe f hf hb=>?_) (k3.sub λf hf=>?_)⟩;·rw[w3 he];exact k2 he f (BU _ hf) hb
   .rw[w4 he];rcases Ao.1 hf with hf|hf
    .exfalso;unfold PG at hok;simp only[BK] at hok;obtain⟨⟨⟨⟨_,sf⟩,_⟩,hee⟩,hl⟩:=hok;cases fL:s.fl with
     |none=>rw[fL] at hf;simp at hf
     |some g=>
      have hhl:s.fp.hl=true:=by
       obtain⟨o,_,⟨_,_,GI,_⟩|⟨r,σ1',_,_,yz,_,GI,_⟩⟩:=k1;·rw[GI] at fL;cases fL
       .rw[GI] at fL;unfold JT at fL;split at fL;·rw[yz];rfl
        .cases fL
      simp[he,hhl] at hl
    .exact h2 he f hf hb
   .rcases Ao.1 hf with hf|hf
    .exact BU _ (CE _ hf)
    .rcases Ao.1 hf with hf|hf
     .exact CE _ hf
     .exact BU _ (BU _ hf)
theorem Pe{Dw:List Nat}{x:Nat}:∀(ds:List Nat) (m:Nat),(ds.foldl (λm e=>m|||bit e|||Dw.getD e 0) m).testBit x=true↔m.testBit x=true\/∃e∈ds,x=e\/(Dw.getD e 0).testBit x=true
 |[],m=>by simp
 |d::ds,m=>by
  rw[List.foldl_cons,Pe ds];simp only[Nat.testBit_or,bit,Nat.testBit_two_pow,Bool.or_eq_true,DI,AM,exists_eq_or_imp];constructor
  .rintro((h|h)|h)
   .rcases h with h|h
    .exact .inl h
    .exact .inr (.inl (.inl h.symm))
   .exact .inr (.inl (.inr h))
   .exact .inr (.inr h)
  .rintro(h|(h|h)|h);·exact .inl (.inl (.inl h))
   .exact .inl (.inl (.inr h.symm))
   .exact .inl (.inr h)
   .exact .inr h
theorem KE:∀(l:List Oper) (Dw:List Nat) (i:Nat),i<Dw.length->(J0 Dw l).getD i 0=Dw.getD i 0
 |[],Dw,i,h=>rfl
 |o::l,Dw,i,h=>by rw[J0,KE l _ i (by simp;omega)];simp[List.getD,Ad h]
theorem Pf:∀(l:List Oper) (Dw:List Nat) (k:Nat) (o:Oper),l[k]?=some o->(∀e∈Oper.S9 o,e<Dw.length+k)->∀x,
  ((J0 Dw l).getD (Dw.length+k) 0).testBit x=true↔∃e∈Oper.S9 o,x=e\/((J0 Dw l).getD e 0).testBit x=true
 |[],Dw,k,o,h,_,x=>by simp at h
 |o'::l,Dw,0,o,h,hd,x=>by
  simp at h;subst h;rw[J0,KE l _ (Dw.length+0) (by simp)];have e1:(Dw++[(Oper.S9 o').foldl (λm e=>m|||bit e|||Dw.getD e 0) 0]).getD (Dw.length+0) 0=(Oper.S9 o').foldl (λm e=>m|||bit e|||Dw.getD e 0) 0:=by simp[List.getD]
  rw[e1,Pe];simp only[Nat.zero_testBit,C2,false_or];constructor;·rintro⟨e,he,h⟩;refine⟨e,he,h.imp id λh=>?_⟩;have hlt:e<Dw.length:=hd e he;rw[KE l _ e (by simp;omega)];simpa[List.getD,Ad hlt] using h
  .rintro⟨e,he,h⟩;refine⟨e,he,h.imp id λh=>?_⟩;have hlt:e<Dw.length:=hd e he;rw[KE l _ e (by simp;omega)] at h;simpa[List.getD,Ad hlt] using h
 |o'::l,Dw,k+1,o,h,hd,x=>by simp at h;rw[J0];have:=Pf l (Dw++[(Oper.S9 o').foldl (λm e=>m|||bit e|||Dw.getD e 0) 0]) k o h (λe he=>by have:=hd e he;simp;omega) x;simp only[Aq,Bc,BT,BJ] at this;rw[show Dw.length+(k+1)=Dw.length+1+k by omega];exact this
theorem Xl{i:Nat}{o:Oper}(ho:ops[i]?=some o)(hd:∀e∈Oper.S9 o,e<i)(x:Nat):DX (Un ops) x i=true↔∃e∈Oper.S9 o,x=e\/DX (Un ops) x e=true:=by have:=Pf ops [] i o ho (by simpa using hd) x;simpa[DX,Un] using this
theorem NV(h:X1 ops=true){i:Nat}{o:Oper}(ho:ops[i]?=some o):∀e∈Oper.S9 o,e<i:=by
 unfold X1 at h;rw[EJ] at h;have:=h (o,i) (by refine CD (i:=i) ?_;simp[List.getElem?_zipIdx,ho])
 intro e he;simpa using EJ.1 this e he
theorem Xm:∀{l:List (Nat×FP)},Uq.go an l=true->l.Pairwise λx y=>x.1≠y.1/\DX an y.1 x.1=false/\(DX an x.1 y.1=true\/PG x.2 y.2=true)
 |[],_=> .nil
 |(i,f)::l,h=>by simp only[Uq.go,BK,EJ] at h;refine .cons (λy hy=>?_) (Xm h.2);have:=h.1 y hy;simp only[bne_iff_ne,Bool.not_eq_true',Bool.or_eq_true] at this;exact⟨this.1.1,this.1.2,this.2⟩
theorem v8{d:Option Nat}{σ:BD}{K:BD->IT}{h:Ae}{R:Jn}(hr:IT.step (B5 C) run (kL d σ K) h=some R):∃σ',Lw d σ σ'/\IT.step (B5 C) run (K σ') h=some R:=by
 unfold kL at hr;cases d with
 |none=>exact⟨σ,rfl,hr⟩
 |some d=>
  simp only at hr;cases hx:σ.at d with
  |val v=>
   rw[hx] at hr;simp only[IT.step] at hr;split at hr;·exact⟨σ.set d (.Nq true),by simp only[Lw,hx];exact⟨true,rfl,rfl⟩,hr⟩
   .exact⟨σ.set d (.Nq false),by simp only[Lw,hx];exact⟨false,rfl,rfl⟩,hr⟩
   .cases hr
  |_=>rw[hx] at hr;exact⟨σ,by simp only[Lw,hx],hr⟩
theorem MT{i:Nat}{t:IT}{h:Ae}{R:Jn}:∀{fl:List Jo},IT.step (B5 C) run (Qr an i fl t) h=some R->(∀f∈fl,DX an f.idx i=false->Bb h f.n f.p=some f.v)/\IT.step (B5 C) run t h=some R
 |[],hr=>⟨by simp,hr⟩
 |f::fl,hr=>by
  unfold Qr at hr;by_cases hb:DX an f.idx i=true
  .rw[if_pos hb] at hr;obtain⟨k1,k2⟩:=MT hr;refine⟨λg hg hgb=>?_,k2⟩;rcases AM.1 hg with rfl|hg
   .rw[hb] at hgb;cases hgb
   .exact k1 g hg hgb
  .rw[if_neg hb] at hr;simp only[IT.step] at hr;split at hr
   .rename_i v hv;split at hr
    .rename_i Ji;obtain⟨k1,k2⟩:=MT hr;refine⟨λg hg hgb=>?_,k2⟩;rcases AM.1 hg with rfl|hg
     .rw[Aa.UM Ji];exact hv
     .exact k1 g hg hgb
    .cases hr
   .cases hr
theorem PM{K:BD->IT}{R:Jn}:∀{rest:List Nat} {ann:List (Nat×FP)} {fl:List Jo} {σ:BD} {h:Ae},IT.step (B5 C) run (PH C fid ops an rest ann fl σ K) h=some R->
  ∃L σf hf,Steps C fid ops run an fl L σ h σf hf/\Uq ops.length an (ann.reverse++L.map λs=>(s.idx,s.fp))=true/\IT.step (B5 C) run (K σf) hf=some R
 |[],ann,fl,σ,h,hr=>by
  unfold PH at hr;split at hr;·rename_i hok;exact⟨[],σ,h,.nil,by simpa using hok,hr⟩
  .cases hr
 |i::rest,ann,fl,σ,h,hr=>by
  unfold PH at hr;cases ho:ops[i]? with
  |none=>rw[ho] at hr;cases hr
  |some o=>
   rw[ho] at hr;simp only at hr;split at hr
   .rename_i hg;split at hr;·cases hr
    .rename_i r hc;obtain⟨σ1,h1,hd,hr⟩:=WX hr;have Fy:(r.Qk=true->∀f∈fl,DX an f.idx i=false->Bb h1 f.n f.p=some f.v)/\IT.step (B5 C) run (kL (if Qs ops i then o.dst else none) σ1 λσ''=>PH C fid ops an rest ((i,Ta C ops σ o (some r))::ann) (Ls i r σ1 fl) σ'' K) h1=some R:=by
      split at hr;·obtain⟨k1,k2⟩:=MT hr;exact⟨λ_=>k1,k2⟩
      .rename_i he;exact⟨λe=>absurd e he,hr⟩
     obtain⟨Wg,hr⟩:=Fy;obtain⟨σ',ha,hr⟩:=v8 hr;rw[UP] at hr;obtain⟨L,σf,hf,k1,k2,k3⟩:=PM hr;exact⟨{idx:=i,fp:=Ta C ops σ o (some r),fl:=JT i r σ1}::L,σf,hf,.cons ⟨o,ho,.inr ⟨r,σ1,hg,hc,rfl,hd,rfl,ha⟩⟩ Wg k1,by simpa using k2,k3⟩
   .rename_i hg;obtain⟨L,σf,hf,k1,k2,k3⟩:=PM hr;exact⟨{idx:=i,fp:=Ta C ops σ o none,fl:=none}::L,σf,hf,.cons ⟨o,ho,.inl ⟨hg,rfl,rfl,rfl,rfl⟩⟩ (λe=>by simp[Ta] at e) k1,by simpa using k2,k3⟩
   .cases hr
end
section
variable{C:FI}{γ0 γ:Gh}{w0 w:World}{β:Nat->Nat}{σ:BD}{h:Ae}{a:Act}{fid:FuncId}
theorem KF(hr:CS C γ0 w0 γ β σ h a w){ops:Array Oper}{o:Oper}{b:Bool}(hg:HT ops.toList σ o= .L6 b):Region.wanted o (yielded ops a.tmps)=b:=by
 unfold HT at hg;unfold Region.wanted;cases ho:o.guard with
 |none=>rw[ho] at hg;cases hg;rfl
 |some g=>
  obtain⟨j,want⟩:=g;rw[ho] at hg;simp only[Array.getElem?_toList] at hg⊢;unfold yielded;cases hd:(ops[j]?).bind (·.dst) with
  |none=>rw[hd] at hg;cases hg
  |some s=>
   rw[hd] at hg;simp only[Cs] at hg⊢;have h0:=hr.fr.Hv s;cases hx:σ.at s with
   |Nq c=>
    rw[hx] at hg h0;cases hg;have hl:s<a.tmps.size:=by rw[<-hr.fr.size];exact BD.NN (by rw[hx];simp)
    have hv:a.tmps.getD s undef= .bool c:=h0;have:a.tmps[s]?=some (.bool c):=by rw[C3 hl];rw[Lo,C3 hl] at hv;exact Ce some hv
    rw[this];rfl
   |skip=>
    rw[hx] at hg h0;cases hg;have hv:a.tmps.getD s undef=undef:=h0;have hne:∀c,a.tmps[s]?≠some (.bool c):=λc hc=>by rw[Lo,hc] at hv;cases hv
    cases ht:a.tmps[s]? with
    |none=>rfl
    |some v=>
     cases v with
     |bool c=>exact absurd ht (hne c)
     |_=>rfl
   |val v=>rw[hx] at hg;cases hg
   |_=>rw[hx] at hg;cases hg
theorem CS.aDJ(hr:CS C γ0 w0 γ β σ h a w){d:Option Nat}{σ':BD}(ha:Lw d σ σ'):CS C γ0 w0 γ β σ' h a w:=by
 unfold Lw at ha;cases d with
 |none=>simp only at ha;rw[ha];exact hr
 |some d=>
  simp only at ha;cases hx:σ.at d with
  |val v=>rw[hx] at ha;obtain⟨b,rfl,rfl⟩:=ha;have h0:=hr.fr.Hv d;rw[hx] at h0;exact hr.ZQ h0
  |_=>rw[hx] at ha;rw[ha];exact hr
structure aJA(ops:Array Oper)(listed:Array Bool)(L:List St):Prop where
 size:listed.size=ops.size
 un:∀i,i<ops.size->(listed.getD i false=false↔i∈L.map (·.idx))
 closed:∀j,listed.getD j false=true->∀e,DX (Un ops.toList) e j=true->listed.getD e false=true
abbrev kX(an:List Nat)(L:List St):Prop:=L.Pairwise λx y=>x.idx≠y.idx/\DX an y.idx x.idx=false/\(DX an x.idx y.idx=true\/PG x.fp y.fp=true)
theorem qZ{run:IT->Ae->Option Jn}(hS:ED C run){ops:Array Oper}{Q:Exit->Act->World->Prop}(FG:X1 ops.toList=true){σf:BD}{hf:Ae}(hQ:∀γ' β' a' w',CS C γ0 w0 γ' β' σf hf a' w'->Q .normal a' w'):
  ∀(fuel:Nat) (L:List St) (listed:Array Bool) (γ:Gh) (β:Nat->Nat) (σ:BD) (h:Ae) (a:Act) (w:World),L.length=fuel->Steps C fid ops.toList run (Un ops.toList) [] L σ h σf hf->kX (Un ops.toList) L->aJA ops listed L->CS C γ0 w0 γ β σ h a w->
   wpAny C.P .any ops Q fuel listed a w:=by
 intro fuel;induction fuel with
 |zero=>
  intro L listed γ β σ h a w hL hs hp ho hr;have hL0:L=[]:=EW hL;subst hL0;cases hs;refine⟨List.eq_nil_iff_forall_not_mem.2 λi hi=>?_,hQ _ _ _ _ hr⟩;obtain⟨h0,o,de,_⟩:=mem_ready.1 hi;have hlt:i<ops.size:=(A0.1 de).1;have Wx:listed.getD i false=false:=by
   have hl:i<listed.size:=by rw[ho.size];exact hlt
   simpa[Array.getD,hl] using h0
  have:=(ho.un i hlt).1 Wx;simp at this
 |succ fuel ih=>
  intro L listed γ β σ h a w hL hs hp ho hr;have Yb:∀i,i<ops.size->listed.getD i true=listed.getD i false:=λi hi=>by
   have hl:i<listed.size:=by rw[ho.size];exact hi
   simp[Array.getD,hl]
  constructor
  .intro Wg;exfalso;cases L with
   |nil=>simp at hL
   |cons s0 L=>
    obtain⟨o,de,_⟩:∃o,ops.toList[s0.idx]?=some o/\True:=by
     cases hs with
     |cons h1 _ _=>obtain⟨o,h2,_⟩:=h1;exact⟨o,h2,trivial⟩
    have fM:ops[s0.idx]?=some o:=by simpa using de
    have hlt:s0.idx<ops.size:=(A0.1 fM).1;have:s0.idx∈Region.ready .any ops listed:=by
     refine mem_ready.2 ⟨?_,o,fM,λe he hb=>?_⟩;·rw[Yb _ hlt];exact(ho.un _ hlt).2 (by simp)
     .have hed:e.on∈Oper.S9 o:=Ci.2 ⟨e,by simpa using he,by rw[if_pos hb]⟩;have hei:=NV FG de e.on hed;cases hl:listed.getD e.on false with
      |true=>rfl
      |false=>
       have hm:=(ho.un e.on (by omega)).1 hl;simp only[Bl,AM] at hm;rcases hm with hm|hm
       .omega
       .obtain⟨y,hy,hye⟩:=Bk.1 hm;have:=((List.pairwise_cons.1 hp).1 y hy).2.1;rw[hye,(Xl de (NV FG de) e.on).2 ⟨e.on,hed,.inl rfl⟩] at this;cases this
    rw[Wg] at this;cases this
  .intro i hi;obtain⟨h0,o,de,aDK⟩:=mem_ready.1 hi;have hlt:i<ops.size:=(A0.1 de).1;rw[Yb i hlt] at h0;obtain⟨s,hsL,rfl⟩:=Bk.1 ((ho.un i hlt).1 h0);obtain⟨A,B,rfl⟩:=List.append_of_mem hsL;have fM:ops.toList[s.idx]?=some o:=by simpa using de
   have aDL:∀e,DX (Un ops.toList) e s.idx=true->listed.getD e false=true:=λe he=>by
    obtain⟨d,hd,Ie⟩:=(Xl fM (NV FG fM) e).1 he;obtain⟨ed,hed,hb⟩:=Ci.1 hd;split at hb
    .rename_i Pc;cases hb;have fK:=aDK ed (by simpa using hed) Pc;rcases Ie with rfl|Ie
     .exact fK
     .exact ho.closed _ fK e Ie
    .cases hb
   have hApair:=(List.pairwise_append.1 hp).2.2;have zd:∀p∈A++s::B,p.idx<ops.size:=λp hp'=>by simpa using hs.lt p hp'
   obtain⟨σ1,h1,k1,_,k3⟩:=ug hs λp hpA=>by
    have hb:DX (Un ops.toList) p.idx s.idx=false:=by
     cases Pc:DX (Un ops.toList) p.idx s.idx with
     |false=>rfl
     |true=>have h1:=aDL _ Pc;have h2:=(ho.un p.idx (zd p (by simp[hpA]))).2 (Bk.2 ⟨p,by simp[hpA],rfl⟩);rw[h1] at h2;cases h2
    refine⟨?_,hb⟩;have:=(hApair p hpA s (by simp)).2.2;rw[hb] at this;exact this.resolve_left (by simp)
   have uh:∀γ' β' a' w',CS C γ0 w0 γ' β' σ1 h1 a' w'->wpAny C.P .any ops Q fuel (listed.setIfInBounds s.idx true) a' w':=λγ' β' a' w' Fy=>by
    refine ih (A++B) _ γ' β' σ1 h1 a' w' (by simp at hL⊢;omega) (k3.sub (by simp)) ?_ ⟨by simp[ho.size],λj hj=>?_,λj hj e he=>?_⟩ Fy;·exact hp.sublist ((AY A).append (List.sublist_cons_self s B))
    .by_cases hjs:j=s.idx
     .subst hjs;have ze:s.idx∉(A++B).map (·.idx):=λhm=>by
       obtain⟨q,hq,he⟩:=Bk.1 hm;rcases Ao.1 hq with hq|hq
       .exact(hApair q hq s (by simp)).1 he
       .exact(List.pairwise_cons.1 (List.pairwise_append.1 hp).2.1).1 q hq |>.1 he.symm
      have ht:(listed.setIfInBounds s.idx true).getD s.idx false=true:=by
       have hl:s.idx<listed.size:=by rw[ho.size];exact hlt
       simp[Array.getD,hl]
      rw[ht];exact⟨λe=>absurd e (by simp),λe=>absurd e ze⟩
     .rw[getD_set_ne false (λe=>hjs e.symm),ho.un j hj];simp only[BI,Bl,Ao,AM];constructor
      .rintro(e|e|e);·exact .inl e
       .exact absurd e hjs
       .exact .inr e
      .rintro(e|e);·exact .inl e
       .exact .inr (.inr e)
    .by_cases hjs:j=s.idx;·subst hjs;exact getD_set_true (aDL e he)
     .rw[getD_set_ne false (λe=>hjs e.symm)] at hj;exact getD_set_true (ho.closed j hj e he)
   unfold wpOp;rw[de];obtain⟨o',db,⟨hg,_,_,rfl,rfl⟩|⟨r,σ2,hg,hc,_,hd,_,ha⟩⟩:=k1;·rw[fM] at db;cases db;simp only[KF hr hg,C2,Ea];exact uh _ _ _ _ (hr.put λ_ _=>rfl)
   .rw[fM] at db;cases db;simp only[KF hr hg,BN];exact .inl (vU hS hc hd hr λγ' β' a' w' Fy=>uh γ' β' a' w' (Fy.aDJ ha))
end
end Go.Am
end
