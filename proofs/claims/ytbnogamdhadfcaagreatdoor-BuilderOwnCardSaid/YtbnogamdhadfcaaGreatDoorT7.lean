/- Lemmas -/
import Derived.Test.YtbnogamdhadfcaaGreatDoorT6
set_option linter.unusedVariables false
set_option linter.unusedSimpArgs false
section
namespace Go.Am
open Go
section
variable{C:FJ}{γ0 γ γ':Gh}{w0 w w':World}{β:Nat->Nat}{σ σ':BG}{h h':Ag}{a:Act}{fid:FuncId}{ops:List Oper}
theorem FM.wp{o:Oper}{K:Act->World->Prop}{Q:Exit->Act->World->Prop}(hs:FM C γ0 w0 o a w σ' h')(hK:∀γ' β' a' w',CT C γ0 w0 γ' β' σ' h' a' w'->K a' w'):o.wp C.P a w K Q:=by
 obtain⟨γ',β',w',⟨v,he,hr⟩|⟨he,hr⟩⟩:=hs;·exact Is he (hK _ _ _ _ hr)
 .exact eJ he (hK _ _ _ _ hr)
theorem WA{P:Program}{op:BinOp}{t:TypeId}{p:We}(hp:OC P op t=some p):p.still=true:=by
 have Jo:∀neg u,Ry P t neg u=some p->p.still=true:=by
  intro neg u h;unfold Ry at h;split at h;·cases h;rfl
  .split at h
   .cases hf:NN P 20 t with
    |none=>rw[hf] at h;cases h
    |some k=>rw[hf] at h;cases h;rfl
   .cases h
  .split at h<;>cases h;rfl
  .cases h;rfl
  .cases h;rfl
  .cases h;rfl
  .cases h
 unfold OC at hp;split at hp;·cases hp;rfl
 .cases hp;rfl
 .split at hp;·exact Jo _ _ hp
  .exact Jo _ _ hp
  .cases hp
 .cases hp
theorem Md{P:Program}{t:TypeId}{f off:Nat}{sh:Option Nat}(hf:HG P t f=some (off,sh))(b o:Nat):(Instr.fieldAt t (.pointer (some ⟨b,o,none⟩)) f).run P w= .ok (.pointer (some ⟨b,o+off,none⟩)) w:=by
 unfold HG at hf;split at hf
 .rename_i fs kO;split at hf
  .rename_i fd kP;split at hf;·rename_i n sh' h1 h2;cases hf;simp[Instr.fieldAt,run_underlying kO,kP,Instr.sureAddr,fieldPlace,Dq h1,Addr.add_lit]
   .cases hf
  .cases hf
 .cases hf
theorem UL(hr:CT C γ0 w0 γ β σ h a w){s ver:Nat}{cs:List Aa}{ow:List Nat}(hs:DL C σ (.tmp s)=some (.box ver cs ow)):a.eval (.tmp s)= .pointer (some ⟨β s,0,none⟩):=by have h0:=Qu hr s;rw[Gj hs] at h0;exact h0.1
theorem SJ(hr:CT C γ0 w0 γ β σ h a w){x:Operand}{s k:Nat}(hs:DL C σ x=some (.EI s k)):a.eval x= .pointer (some ⟨β s,k,none⟩):=by obtain⟨t,h1,_⟩:=Fz hr hs;exact h1
theorem Xk{o:Oper}{t:TypeId}{v:Aa}{d:Nat}{r:Et}{run:IT->Ag->Option Js}(hb:Sx C fid t v d=some r)(FG:r.L9 C run (σ.drop r.news) h σ' h')
  (NM:∀n,C.kind fid d= .NM->v.cells.length=n->n≠0->FM C γ0 w0 o a w ((σ.drop [d]).set d (.box 0 v.cells [])) h)
  (heap:v.cells.length≠0->FM C γ0 w0 o a w (σ.put (some d) (.val (.ptr (some (h.length,0))))) (h++[.cells v.cells])):FM C γ0 w0 o a w σ' h':=by
 unfold Sx at hb;split at hb;·cases hb
 .rename_i n hn;split at hb;·cases hb
  .rename_i hn0;split at hb;·cases hb;obtain⟨h1,rfl,rfl⟩:=FG;rename_i hk;exact NM n hk h1 hn0
   .cases hb;obtain⟨h1,rfl,rfl⟩:=FG;exact heap (by omega)
theorem OH{d s k:Nat}{run:IT->Ag->Option Js}(FG:(Et.pure [(d,.EI s k)]).L9 C run (σ.drop (Et.pure [(d,.EI s k)]).news) h σ' h'):σ'=σ.set d (.EI s k)/\h'=h:=by obtain⟨rfl,rfl⟩:=FG;exact⟨rfl,rfl⟩
theorem vW{run:IT->Ag->Option Js}(hS:EF C run){o:Oper}{r:Et}{K:Act->World->Prop}{Q:Exit->Act->World->Prop}(hc:Fv C fid ops σ o=some r)(FG:r.L9 C run (σ.drop r.news) h σ' h')(hr:CT C γ0 w0 γ β σ h a w)
  (hK:∀γ' β' a' w',CT C γ0 w0 γ' β' σ' h' a' w'->K a' w'):o.wp C.P a w K Q:=by
 by_cases hst:∃p args dst own dem,r= .op p args dst own dem/\p.still=true
 .obtain⟨p,args,dst,own,dem,rfl,gd⟩:=hst
  obtain⟨hS',rfl,rfl,rfl⟩:=qM hc gd hr
  obtain⟨v,hv,rfl,rfl⟩:=FG
  obtain⟨u,q1,q2⟩:=hS' v hv
  exact Is q1 (hK _ _ _ _ (hr.put λ_ _=>q2))
 .have Wh:∀{p args dst},r= .op p args dst false none->p.still=false:=λ{p args dst} he=>by
   cases hp:p.still with
   |false=>rfl
   |true=>exact absurd ⟨p,args,dst,false,none,he,hp⟩ hst
  have GK:∀{p dst x},Rz p dst x=some r->p.still=false:=λ{p dst x} he=>by
   obtain⟨args,_,e⟩:=Dy he
   exact Wh e
  unfold Fv at hc
  split at hc
  .rename_i x ho
   split at hc
   .rename_i d hd
    obtain⟨γ',Fy⟩:=Qw hc FG hr
    exact Is (w':=w) (v:=a.eval x) (by simp[execOp,ho]) (hK _ _ _ _ (by rw[hd];exact Fy))
   .cases hc
  .rename_i x ho
   split at hc
   .rename_i d hd
    obtain⟨γ',Fy⟩:=Qw hc FG hr
    exact Is (w':=w) (v:=a.eval x) (by simp[execOp,ho]) (hK _ _ _ _ (by rw[hd];exact Fy))
   .cases hc
  .rename_i c x y ho
   split at hc
   .rename_i d hcs hd
    obtain⟨γ',Fy⟩:=Qw hc FG hr
    obtain⟨s,h1,_⟩:=Fz hr hcs
    have h1:a.eval c= .bool true:=h1
    exact Is (w':=w) (v:=a.eval x) (by simp[execOp,ho,h1,asBool]) (hK _ _ _ _ (by rw[hd];exact Fy))
   .rename_i d hcs hd
    obtain⟨γ',Fy⟩:=Qw hc FG hr
    obtain⟨s,h1,_⟩:=Fz hr hcs
    have h1:a.eval c= .bool false:=h1
    exact Is (w':=w) (v:=a.eval y) (by simp[execOp,ho,h1,asBool]) (hK _ _ _ _ (by rw[hd];exact Fy))
   .cases GK hc
  .rename_i t ho
   split at hc
   .rename_i d z hd hz
    split at hc
    .split at hc
     .rename_i HJ
      cases hc
      obtain⟨rfl,rfl⟩:=FG
      exact(Uy ho hd hz HJ.2 hr).wp hK
     .cases hc
    .rename_i hk
     refine(Xk (o:=o) (a:=a) (w:=w) (γ0:=γ0) (w0:=w0) hc FG (λn h0 h1 h2=>absurd h0 (by simpa using hk)) λh1=>Uz ho hd hz h1 hr).wp hK
   .cases hc
  .rename_i t x ho
   split at hc
   .rename_i d v hd hv
    exact(Xk (o:=o) (a:=a) (w:=w) (γ0:=γ0) (w0:=w0) hc FG (λn _ h1 h2=>Yb ho hd hv h1 h2 hr) λh1=>Yc ho hd hv h1 hr).wp hK
   .cases hc
  .split at hc
   .split at hc
    .cases GK hc
    .cases hc
   .cases hc
  .rename_i t len parts ho
   split at hc
   .rename_i e ht
    split at hc
    .rename_i n hn
     split at hc
     .rename_i HJ
      cases ha:Br C σ (parts.toList.map (·.2)) with
      |none=>rw[ha] at hc;cases hc
      |some args=>
       rw[ha] at hc;cases hc
       obtain⟨v,hv,rfl,rfl⟩:=FG
       exact(vD ho ht hn HJ.1 HJ.2 ha hv hr).wp hK
     .cases hc
    .cases hc
   .cases hc
  .rename_i t x ho
   split at hc
   .rename_i d hd
    by_cases hp:∃ws,r= .pure ws
    .exact(Ww ho hd hc hp FG hr).wp hK
    .unfold Kr at hc
     split at hc
     .rename_i n p ht hx
      cases hc
      obtain⟨v,hv,rfl,rfl⟩:=FG
      have hs:=vA ho ht hx hv hr
      rw[hd] at hs
      exact hs.wp hK
     .split at hc
      .simp only at hc
       split at hc<;>(cases hc;exact absurd ⟨_,rfl⟩ hp)
      .cases hc
     .split at hc
      .cases hc;exact absurd ⟨_,rfl⟩ hp
      .cases hc
     .cases hc
   .cases hc
  .rename_i t x y ho
   split at hc
   .rename_i hd
    have Km:=hc
    unfold ID at hc
    split at hc
    .rename_i n p v hsz hx hv
     cases hc
     obtain⟨aJk,rfl⟩:=FG
     exact(qN ho hd hsz hx hv aJk hr).wp hK
    .split at hc
     .cases hc
      exact(eX ho hd Km FG hr).wp hK
     .cases hc
    .cases hc
   .cases hc
  .rename_i x ho
   split at hc
   .rename_i s ver cs ow d hd hs
    cases hc
    obtain⟨rfl,rfl⟩:=OH FG
    have he:=UL hr hs
    exact Is (w':=w) (v:= .pointer (some ⟨β s,0,none⟩)) (by simp[execOp,ho,he]) (hK _ _ _ _ (by rw[hd];exact hr.put (d:=some d) λ_ _=>rfl))
   .rename_i s k d hd hs
    cases hc
    obtain⟨rfl,rfl⟩:=OH FG
    have he:=SJ hr hs
    exact Is (w':=w) (v:= .pointer (some ⟨β s,k,none⟩)) (by simp[execOp,ho,he]) (hK _ _ _ _ (by rw[hd];exact hr.put (d:=some d) λ_ _=>rfl))
   .cases GK hc
  .split at hc
   .rename_i p hp
    have gd:=GK hc
    rw[WA hp] at gd
    cases gd
   .cases hc
  .cases GK hc
  .rename_i src aI3 x ho
   split at hc
   .rename_i hq
    unfold Ul at hq
    cases hv:Eu C σ x with
    |none=>rw[hv] at hc;cases hc
    |some v=>
     rw[hv] at hc;cases hc
     split at hq
     .cases hq
     .cases hq
     .cases hq
     .rename_i e hs hd
      split at hq
      .rename_i he
       obtain⟨v',u,h1,h2,rfl⟩:=FG
       exact(fq ho hs hd he hv h1 h2 hr).wp hK
      .cases hq
     .split at hq<;>cases hq
     .cases hq
   .rename_i hq
    unfold Ul at hq
    split at hq
    .cases hq
    .cases hq
    .cases hq
    .split at hq<;>cases hq
    .rename_i e hs hd
     split at hq
     .rename_i he _ _
      split at hc
      .cases hv:Eu C σ x with
       |none=>rw[hv] at hc;cases hc
       |some v=>
        rw[hv] at hc;cases hc
        obtain⟨u,h1,rfl⟩:=FG
        exact(Yg ho hs hd he hv h1 hr).wp hK
      .obtain⟨args,ha,rfl⟩:=Dy hc
       obtain⟨u,h1,rfl,rfl⟩:=FG
       obtain⟨v,rfl,_⟩:=F8 hr ha
       exact(fo ho hs hd he ha h1 hr).wp hK
     .cases hq
    .cases hq
   .rename_i p LR Rs hq
    have gd:=GK hc
    unfold Ul at hq
    split at hq
    .cases hq;cases gd
    .cases hq;cases gd
    .cases hq
    .split at hq
     .cases hq;exact absurd rfl LR
     .cases hq
    .split at hq
     .cases hq;exact absurd rfl Rs
     .cases hq
    .cases hq
   .cases hc
  .rename_i fn first captured ho
   split at hc
   .rename_i d as bs fz hd ha hb
    cases hc
    obtain⟨rfl,rfl⟩:=FG
    exact(Z7 ho hd ha hb hr).wp hK
   .cases hc
  .rename_i t ho
   cases hc
   obtain⟨rfl,rfl⟩:=FG
   exact(vM ho hr).wp hK
  .rename_i t l c ho
   split at hc
   .rename_i e ht
    split at hc
    .rename_i n b z vl vc hn hb hz hl Wy
     cases hc
     obtain⟨v,h1,rfl⟩:=FG
     exact(vH ho ht hn hb hz hl Wy h1 hr).wp hK
    .cases hc
   .cases hc
  .rename_i t m k x ho
   split at hc
   .rename_i kt e ht
    split at hc
    .rename_i vm vk vx hd hk ha
     cases hc
     obtain⟨h1,rfl⟩:=FG
     exact(aC (.inl ho) hd ht hk ha h1 hr).wp hK
    .cases hc
   .cases hc
  .rename_i t m k x ho
   split at hc
   .rename_i kt e ht
    split at hc
    .rename_i vm vk vx hd hk ha
     cases hc
     obtain⟨h1,rfl⟩:=FG
     exact(aC (.inr ho) hd ht hk ha h1 hr).wp hK
    .cases hc
   .cases hc
  .rename_i t m k ok ho
   split at hc
   .rename_i kt e ht
    split at hc
    .rename_i z vm vk hk hz ha
     cases hc
     obtain⟨v,h1,rfl,rfl⟩:=FG
     exact(vN ho ht hk hz ha h1 hr).wp hK
    .rename_i z vm vk hk hz ha
     cases hc
     obtain⟨v,h1,rfl⟩:=FG
     exact(vV ho ht hk hz ha h1 hr).wp hK
    .cases hc
   .cases hc
  .rename_i t x lo hi mx ho
   split at hc
   .rename_i e ht
    split at hc
    .rename_i n hn
     obtain⟨args,ha,rfl⟩:=Hg hc
     obtain⟨v,h1,rfl⟩:=FG
     simp only[Ed] at h1
     split at h1
     .rename_i hch
      cases h1
      exact(vT ho ht hn ha hch hr).wp hK
     .cases h1
    .cases hc
   .cases hc
  .rename_i t x ho
   split at hc
   .cases hc
   .rename_i u hu ht
    obtain⟨args,ha,rfl⟩:=Hg hc
    obtain⟨v,h1,rfl⟩:=FG
    obtain⟨y,rfl,_⟩:=F8 hr ha
    cases h1
    exact(vU ho ht (λi e=>hu i e) ha hr).wp hK
   .cases hc
  .rename_i t m k ho
   split at hc
   .rename_i kt e ht
    split at hc
    .rename_i z hk hz
     obtain⟨args,ha,rfl⟩:=Hg hc
     obtain⟨v,h1,rfl⟩:=FG
     obtain⟨y1,y2,rfl,_,_⟩:=Fe hr ha
     exact(fF ho ht hk hz ha h1 hr).wp hK
    .cases hc
   .cases hc
  .rename_i t m s x ho
   split at hc
   .rename_i hd
    obtain⟨args,ha,rfl⟩:=Hg hc
    obtain⟨v,h1,rfl⟩:=FG
    obtain⟨y1,y2,y3,rfl⟩:∃y1 y2 y3,args=[y1,y2,y3]:=by
     have:=Dx hr ha
     cases args with
     |nil=>cases h1
     |cons y1 l1=>cases l1 with
      |nil=>cases h1
      |cons y2 l2=>cases l2 with
       |nil=>cases h1
       |cons y3 l3=>cases l3 with
        |nil=>exact⟨_,_,_,rfl⟩
        |cons _ _=>cases h1
    exact(fG ho hd ha h1 hr).wp hK
   .cases hc
  .rename_i t x lo hi ho
   split at hc
   .cases GK hc
   .rename_i e ht
    split at hc
    .rename_i n hn
     split at hc
     .obtain⟨args,ha,rfl⟩:=Hg hc
      obtain⟨v,h1,rfl⟩:=FG
      cases args with
      |nil=>cases h1
      |cons y l=>exact(vS ho ht hn ha h1 hr).wp hK
     .cases GK hc
    .cases hc
   .cases hc
  .rename_i t x f ho
   split at hc
   .rename_i off sh d hf hd
    split at hc
    .rename_i s ver cs ow hs
     cases hc
     obtain⟨rfl,rfl⟩:=OH FG
     have he:=UL hr hs
     exact Is (w':=w) (v:= .pointer (some ⟨β s,off,none⟩)) (by simp only[execOp,ho,he];exact Eo (by rw[Md hf];simp)) (hK _ _ _ _ (by rw[hd];exact hr.put (d:=some d) λ_ _=>rfl))
    .rename_i s k hs
     cases hc
     obtain⟨rfl,rfl⟩:=OH FG
     have he:=SJ hr hs
     exact Is (w':=w) (v:= .pointer (some ⟨β s,k+off,none⟩)) (by simp only[execOp,ho,he];exact Eo (Md hf _ _)) (hK _ _ _ _ (by rw[hd];exact hr.put (d:=some d) λ_ _=>rfl))
    .cases GK hc
   .cases hc
  .split at hc
   .cases GK hc
   .cases hc
  .split at hc
   .split at hc
    .cases GK hc
    .cases hc
   .split at hc
    .split at hc
     .cases hc
     .cases GK hc
    .cases hc
   .cases hc
  .split at hc
   .cases GK hc
   .split at hc
    .cases GK hc
    .cases hc
   .cases hc
  .cases GK hc
  .rename_i c ho
   unfold PG at hc
   split at hc
   .split at hc
    .split at hc
     .cases GK hc
     .cases GK hc
     .cases hc
    .cases hc
   .rename_i hcl
    split at hc
    .rename_i t t' s x h0 h1 Ej
     split at hc
     all_goals first
      |(cases hc;done)
      | (rename_i e _ ht Fp
         split at hc
         . rename_i n b hn hb
           split at hc
           . rename_i dS
             split at hc
             . rename_i v u ha
               split at hc
               . rename_i E4
                 split at hc
                 . cases hc
                   obtain ⟨r', h3, rfl⟩ := FG
                   exact (qS ho hcl h0 h1 Ej ht (by first | exact .inl ⟨_, Fp⟩ | exact .inr Fp) hn hb E4 dS ha h3 hr).wp hK
                 . split at hc
                   . cases hc
                     obtain ⟨r', h3, rfl, rfl⟩ := FG
                     exact (Z9 ho hcl h0 h1 Ej ht (by first | exact .inl ⟨_, Fp⟩ | exact .inr Fp) hn hb E4 dS ha h3 hr).wp hK
                   . cases hc
                     obtain ⟨r', h3, rfl, rfl⟩ := FG
                     exact (fB ho hcl h0 h1 Ej ht (by first | exact .inl ⟨_, Fp⟩ | exact .inr Fp) hn hb E4 dS ha h3 hr).wp hK
               . split at hc
                 . cases hc
                   obtain ⟨r', h3, rfl⟩ := FG
                   exact (vP ho hcl h0 h1 Ej ht (by first | exact .inl ⟨_, Fp⟩ | exact .inr Fp) hn hb dS ha h3 hr).wp hK
                 . cases hc
             . cases hc
           . cases hc
         . cases hc)
    .cases hc
   .rename_i hcl
    split at hc
    .rename_i t t' s x h0 h1 Ej
     split at hc
     all_goals first
      |(cases hc;done)
      | (rename_i e _ ht Fp
         split at hc
         . rename_i n hn
           obtain ⟨args, ha, rfl⟩ := Hg hc
           obtain ⟨v, h3, rfl⟩ := FG
           obtain ⟨y1, y2, rfl, _, _⟩ := Fe hr ha
           exact (vR ho hcl h0 h1 Ej ht (by first | exact .inl ⟨_, Fp⟩ | exact .inr Fp) hn ha h3 hr).wp hK
         . cases hc)
    .cases hc
   .rename_i hcl
    split at hc
    .rename_i t s h0 Ej
     split at hc
     .rename_i e ht
      split at hc
      .rename_i n z hn hz
       obtain⟨args,ha,rfl⟩:=Hg hc
       obtain⟨v,h3,rfl⟩:=FG
       obtain⟨y1,rfl,_⟩:=F8 hr ha
       exact(qV ho hcl h0 Ej ht hn hz ha h3 hr).wp hK
      .cases hc
     .cases hc
    .cases hc
   .split at hc
    .cases GK hc
    .cases hc
   .split at hc
    .cases GK hc
    .cases hc
   .rename_i f hcl
    split at hc
    .rename_i hf
     split at hc
     .rename_i s i x Ej
      split at hc
      .rename_i E4
       obtain⟨args,ha,rfl⟩:=Hg hc
       obtain⟨v,h3,rfl⟩:=FG
       exact fu hS ho hcl hf Ej E4 ha h3 hr λγ' v w' Fy=>hK _ _ _ _ Fy
      .cases hc
     .cases hc
    split at hc
    rotate_left
    .cases hc
    rename_i Wg
    rw[<-Wg] at hcl
    cases ha:Br C σ c.args.toList with
    |none=>rw[ha] at hc;cases hc
    |some args=>
     rw[ha] at hc
     simp only[BT,BF] at hc
     split at hc
     .cases hc
      obtain⟨Gv,rv,h1,h2,h3,rfl,rfl⟩:=FG
      exact qQ hS ho hcl ha Gv h2 h3 hr λγ' v w' Fy=>hK _ _ _ _ Fy
     .cases hc
      obtain⟨rv,h1,rfl⟩:=FG
      exact vJ hS ho hcl ha h1 hr λγ' v w' Fy=>hK _ _ _ _ Fy
   .rename_i g hn hcl
    split at hc
    .rename_i gv args hg ha
     cases hc
     obtain⟨f,args',rv,h0,h1,rfl⟩:=FG
     exact qR hS ho hcl hg ha h0 h1 hr λγ' v w' Fy=>hK _ _ _ _ Fy
    .cases hc
   .cases hc
  .cases hc
end
end Go.Am
end
section
namespace Go.Am
open Go
section
variable{C:FJ}{σ τ:BG}{fid:FuncId}{ops:List Oper}
theorem Yi{x:Operand}(h:∀t,x= .tmp t->τ.at t=σ.at t):DL C τ x=DL C σ x:=by
 cases x with
 |tmp t=>simp only[DL,h t rfl]
 |const v=>
  cases v with
  |slice a b c=>cases a<;>cases b<;>cases c<;>rfl
  |_=>rfl
 |global g=>rfl
 |func f=>rfl
def TU(C:FJ)(σ τ:BG)(xs:List Operand):Prop:=∀x∈xs,DL C τ x=DL C σ x
theorem TU.kV{xs:List Operand}(h:∀t∈JA xs,τ.at t=σ.at t):TU C σ τ xs:=λx hx=>Yi λt ht=>h t (by subst ht;exact Cj.2 ⟨_,hx,rfl⟩)
theorem TU.val{xs:List Operand}(h:TU C σ τ xs){x:Operand}(hx:x∈xs):Eu C τ x=Eu C σ x:=by unfold Eu;rw[h x hx]
theorem TU.JF{xs:List Operand}(h:TU C σ τ xs):∀{ys:List Operand},(∀y∈ys,y∈xs)->Br C τ ys=Br C σ ys
 |[],_=>rfl
 |y::ys,hy=>by unfold Br;rw[h.val (hy y (by simp)),h.JF λz hz=>hy z (by simp[hz])]
theorem TU.move{xs:List Operand}(h:TU C σ τ xs){x:Operand}(hx:x∈xs)(d:Nat)(take:Bool):Jz C τ x d take=Jz C σ x d take:=by unfold Jz;rw[h x hx]
theorem TU.own{xs:List Operand}(h:TU C σ τ xs){x:Operand}(hx:x∈xs):J5 C τ x=J5 C σ x:=by unfold J5;rw[h x hx]
theorem TU.Dn{xs:List Operand}(h:TU C σ τ xs){x:Operand}(hx:x∈xs):CZ τ x=CZ σ x:=by
 cases x with
 |tmp t=>have:=h _ hx;simp only[DL,BF] at this;simp only[CZ,this]
 |_=>rfl
theorem TU.Gu{xs:List Operand}(h:TU C σ τ xs):∀{ys:List Operand},(∀y∈ys,y∈xs)->Am.Gu C τ ys=Am.Gu C σ ys
 |[],_=>rfl
 |y::ys,hy=>by unfold Am.Gu;rw[h y (hy y (by simp)),h.Gu λz hz=>hy z (by simp[hz])]
theorem TU.addr{xs:List Operand}(h:TU C σ τ xs){x:Operand}(hx:x∈xs)(hb:∀s∈(MI C σ x).toList,τ.at s=σ.at s)(hn:Fu C σ x≠none):Fu C τ x=Fu C σ x:=by
 have MD:=h x hx;cases hs:DL C σ x with
 |none=>unfold Fu at hn;rw[hs] at hn;exact absurd (by split<;>simp_all) hn
 |some sl=>
  rw[hs] at MD;cases sl with
  |EI s o=>
   have h1:∀ρ:BG,DL C ρ x=some (.EI s o)->Fu C ρ x=match ρ.at s with| .box ver cs ow=>some (.NM s o ver cs ow)|_=>none:=λρ hρ=>by unfold Fu;rw[hρ];cases x<;>rfl
   rw[h1 σ hs] at hn⊢;rw[h1 τ MD];have h2:s∈(MI C σ x).toList:=by
    unfold MI;rw[h1 σ hs];cases SB:σ.at s with
    |box ver cs ow=>simp
    |_=>rw[SB] at hn;exact absurd rfl hn
   rw[hb s h2]
  |_=>unfold Fu;rw[hs,MD];cases x<;>rfl
theorem TU.load{xs:List Operand}(h:TU C σ τ xs){x:Operand}(hx:x∈xs)(hb:∀s∈(MI C σ x).toList,τ.at s=σ.at s){t:TypeId}{d:Nat}{take:Bool}{r:Et}(hc:Kr C σ t x d take=some r):Kr C τ t x d take=some r:=by
 have hn:Fu C σ x≠none:=λhe=>by unfold Kr at hc;rw[he] at hc;split at hc<;>simp_all
 unfold Kr at hc⊢;rw[h.addr hx hb hn];exact hc
theorem TU.store{xs:List Operand}(h:TU C σ τ xs){x y:Operand}(hx:x∈xs)(hy:y∈xs)(hb:∀s∈(MI C σ x).toList,τ.at s=σ.at s){t:TypeId}{r:Et}(hc:ID C σ t x y=some r):ID C τ t x y=some r:=by
 have hn:Fu C σ x≠none:=λhe=>by unfold ID at hc;rw[he] at hc;split at hc<;>simp_all
 unfold ID at hc⊢;rw[h.addr hx hb hn,h.val hy,h.own hy,h.Dn hy];exact hc
theorem TU.call{c:Call}(h:TU C σ τ c.operands.toList)(dst:Option Nat):PG C fid τ c dst=PG C fid σ c dst:=by
 have ha:∀y∈c.args.toList,y∈c.operands.toList:=λy hy=>by unfold Call.operands;rw[Jy];exact BV _ hy
 have hv:Br C τ c.args.toList=Br C σ c.args.toList:=h.JF ha;unfold PG;split;·rw[hv]
 .split
  .rename_i Ej;have h1:∀{s x:Operand},c.args.toList=[s,x]->J5 C τ s=J5 C σ s/\CZ τ s=CZ σ s/\Br C τ [s,x]=Br C σ [s,x]:=λ{s x} he=>by rw[he] at ha;exact⟨h.own (ha s (by simp)),h.Dn (ha s (by simp)),h.JF λy hy=>ha y hy⟩
   obtain⟨e1,e2,e3⟩:=h1 Ej;rw[e1,e2,e3]
  .rfl
 .split;·rename_i Ej;rw[Ej] at ha;rw[h.JF λy hy=>ha y hy]
  .rfl
 .split;·rename_i Ej;rw[Ej] at ha;rw[h.JF λy hy=>ha y hy]
  .rfl
 .rw[hv]
 .rw[hv]
 .split
  .split;·rename_i s i v Ej;rw[Ej] at ha;rw[h.own (ha v (by simp)),h.JF λy hy=>ha y hy]
   .rfl
  .rw[hv]
 .rename_i g _ hcl;have hg:g∈c.operands.toList:=by unfold Call.operands;rw[hcl];simp
  rw[hv,h.val hg]
 .rfl
theorem UM{o:Oper}{r:Et}(hc:Fv C fid ops σ o=some r)(ht:∀t∈JA o.op.operands.toList,τ.at t=σ.at t)(hb:∀s∈He C σ o,τ.at s=σ.at s):Fv C fid ops τ o=some r:=by
 have h:TU C σ τ o.op.operands.toList:= .kV ht
 unfold Fv at hc⊢
 cases ho:o.op with
 |move x=>
  rw[ho] at h
  simp only[ho] at hc⊢
  have:=λd=>h.move (x:=x) (by simp[Op.operands]) d
  simpa only[this] using hc
 |assign x=>
  rw[ho] at h
  simp only[ho] at hc⊢
  have:=λd=>h.move (x:=x) (by simp[Op.operands]) d
  simpa only[this] using hc
 |pick c a b=>
  rw[ho] at h
  simp only[ho] at hc⊢
  have h1:=λd=>h.move (x:=a) (by simp[Op.operands]) d
  have h2:=λd=>h.move (x:=b) (by simp[Op.operands]) d
  rw[h c (by simp[Op.operands]),h.JF (ys:=[c,a,b]) (by simp[Op.operands])]
  simpa only[h1,h2] using hc
 |alloc t=>rw[ho] at hc;exact hc
 |box t x=>
  rw[ho] at h
  simp only[ho] at hc⊢
  rw[h.val (x:=x) (by simp[Op.operands])]
  exact hc
 |build t parts=>
  rw[ho] at h
  simp only[ho] at hc⊢
  rw[h.JF (ys:=parts.toList.map (·.2)) (by simp[Op.operands])]
  exact hc
 |buildSlice t len parts=>
  rw[ho] at h
  simp only[ho] at hc⊢
  rw[h.JF (ys:=parts.toList.map (·.2)) (by simp[Op.operands])]
  exact hc
 |load t x=>
  rw[ho] at h
  simp only[ho] at hc⊢
  split at hc
  .exact h.load (by simp[Op.operands]) (λs hs=>hb s (by simpa only[He,ho] using hs)) hc
  .cases hc
 |store t x y=>
  rw[ho] at h
  simp only[ho] at hc⊢
  split at hc
  .exact h.store (by simp[Op.operands]) (by simp[Op.operands]) (λs hs=>hb s (by simpa only[He,ho] using hs)) hc
  .cases hc
 |nilCheck x=>
  rw[ho] at h
  simp only[ho] at hc⊢
  have e2:=h.JF (ys:=[x]) (by simp[Op.operands])
  rw[h x (by simp[Op.operands])]
  cases hs:DL C σ x with
  |none=>rw[hs] at hc;cases x<;>cases hd:o.dst<;>rw[hd] at hc<;>first|exact hc|(show Rz _ _ (Br C τ [_])=some r;rw[e2];exact hc)
  |some sl=>rw[hs] at hc;cases sl<;>cases x<;>cases hd:o.dst<;>rw[hd] at hc<;>first|exact hc|(show Rz _ _ (Br C τ [_])=some r;rw[e2];exact hc)
 |binOp op t x y k=>
  rw[ho] at h
  simp only[ho] at hc⊢
  rw[h.JF (ys:=[x,y]) (by simp[Op.operands])]
  exact hc
 |unOp op t x=>
  rw[ho] at h
  simp only[ho] at hc⊢
  rw[h.JF (ys:=[x]) (by simp[Op.operands])]
  exact hc
 |convert src dst x=>
  rw[ho] at h
  simp only[ho] at hc⊢
  rw[h.JF (ys:=[x]) (by simp[Op.operands]),h.val (x:=x) (by simp[Op.operands])]
  exact hc
 |makeFunc fn first captured=>
  rw[ho] at h
  simp only[ho] at hc⊢
  rw[h.JF (ys:=first.toList) (λ_ hm=>by simp[Op.operands,hm]),h.Gu (ys:=captured.toList) (λ_ hm=>by simp[Op.operands,hm])]
  exact hc
 |makeMap t r'=>
  rw[ho] at hc
  cases r' with
  |none=>exact hc
  |some _=>cases hc
 |makeSlice t l c=>
  rw[ho] at h
  simp only[ho] at hc⊢
  rw[h.val (x:=l) (by simp[Op.operands]),h.val (x:=c) (by simp[Op.operands])]
  exact hc
 |insert t m k v=>
  rw[ho] at h
  simp only[ho] at hc⊢
  rw[h.JF (ys:=[m,k,v]) (by simp[Op.operands])]
  exact hc
 |mapUpdate t m k v=>
  rw[ho] at h
  simp only[ho] at hc⊢
  rw[h.JF (ys:=[m,k,v]) (by simp[Op.operands])]
  exact hc
 |lookup t m k ok=>
  rw[ho] at h
  simp only[ho] at hc⊢
  rw[h.JF (ys:=[m,k]) (by simp[Op.operands])]
  exact hc
 |slice t x lo hi mx=>
  rw[ho] at h hc
  cases mx with
  |none=>
   have e2:=h.JF (ys:=x::(lo.toList++hi.toList)) (by cases lo<;>cases hi<;>simp[Op.operands])
   simp only at hc⊢
   rw[e2]
   exact hc
  |some mx=>cases lo with
   |none=>cases hc
   |some lo=>cases hi with
    |none=>cases hc
    |some hi=>
     have e2:=h.JF (ys:=[x,lo,hi,mx]) (by simp[Op.operands])
     simp only at hc⊢
     rw[e2]
     exact hc
 |makeInterface t x=>
  rw[ho] at h
  simp only[ho] at hc⊢
  rw[h.JF (ys:=[x]) (by simp[Op.operands])]
  exact hc
 |mapEntry t m k=>
  rw[ho] at h
  simp only[ho] at hc⊢
  rw[h.JF (ys:=[m,k]) (by simp[Op.operands])]
  exact hc
 |entryStore t m s v=>
  rw[ho] at h
  simp only[ho] at hc⊢
  rw[h.JF (ys:=[m,s,v]) (by simp[Op.operands])]
  exact hc
 |fieldAddr t x f=>
  rw[ho] at h
  simp only[ho] at hc⊢
  have e2:=h.JF (ys:=[x]) (by simp[Op.operands])
  rw[h x (by simp[Op.operands])]
  cases hf:HG C.P t f with
  |none=>rw[hf] at hc;cases hc
  |some q=>
   rw[hf] at hc
   cases hd:o.dst with
   |none=>rw[hd] at hc;cases hc
   |some d=>
    rw[hd] at hc
    cases hs:DL C σ x with
    |none=>rw[hs] at hc;cases x<;>first|exact hc|(show Rz _ _ (Br C τ [_])=some r;rw[e2];exact hc)
    |some sl=>rw[hs] at hc;cases sl<;>cases x<;>first|exact hc|(show Rz _ _ (Br C τ [_])=some r;rw[e2];exact hc)
 |field t x f=>
  rw[ho] at h
  simp only[ho] at hc⊢
  rw[h.JF (ys:=[x]) (by simp[Op.operands])]
  exact hc
 |indexAddr t x i=>
  rw[ho] at h
  simp only[ho] at hc⊢
  rw[h.JF (ys:=[x,i]) (by simp[Op.operands])]
  exact hc
 |index t x i=>
  rw[ho] at h
  simp only[ho] at hc⊢
  rw[h.JF (ys:=[x,i]) (by simp[Op.operands])]
  exact hc
 |extract x i=>
  rw[ho] at h
  simp only[ho] at hc⊢
  rw[h.JF (ys:=[x]) (by simp[Op.operands])]
  exact hc
 |call c=>
  rw[ho] at h
  simp only[ho] at hc⊢
  rw[h.call]
  exact hc
 |_=>simp only[ho] at hc;cases hc
end
end Go.Am
end
section
namespace Go.Am
open Go
mutual
theorem Aa.UN:∀{a b:Aa},Aa.beq a b=true->a=b
 | .bool a,b,h=>by cases b<;>simp[Aa.beq] at h⊢;exact h
 | .int k a,b,h=>by cases b<;>simp[Aa.beq] at h⊢;exact h
 | .str a,b,h=>by cases b<;>simp[Aa.beq] at h⊢;exact h
 | .ptr a,b,h=>by cases b<;>simp[Aa.beq] at h⊢;exact h
 | .CB a,b,h=>by cases b<;>simp[Aa.beq] at h⊢;exact Aa.MU h
 | .sl n a,b,h=>by cases b<;>simp[Aa.beq] at h⊢;exact⟨h.1,Aa.aJ h.2⟩
 | .slnil,b,h=>by cases b<;>simp[Aa.beq] at h⊢
 | .Ck a c d e,b,h=>by cases b<;>simp[Aa.beq] at h⊢;exact⟨h.1.1.1,h.1.1.2,h.1.2,h.2⟩
 | .map a,b,h=>by cases b<;>simp[Aa.beq] at h⊢;exact h
 | .func f a c,b,h=>by cases b<;>simp[Aa.beq] at h⊢;exact⟨h.1.1,Aa.MU h.1.2,Aa.MU h.2⟩
 | .nilFunc,b,h=>by cases b<;>simp[Aa.beq] at h⊢
 | .iface t a,b,h=>by cases b<;>simp[Aa.beq] at h⊢;exact⟨h.1,Aa.UN h.2⟩
 | .nilIface,b,h=>by cases b<;>simp[Aa.beq] at h⊢
 | .agg a,b,h=>by cases b<;>simp[Aa.beq] at h⊢;exact Aa.MU h
 | .tuple a,b,h=>by cases b<;>simp[Aa.beq] at h⊢;exact Aa.MU h
theorem Aa.MU:∀{a b:List Aa},Aa.Qm a b=true->a=b
 |[],b,h=>by cases b<;>simp[Aa.Qm] at h⊢
 |a::x,b,h=>by
  cases b with
  |nil=>simp[Aa.Qm] at h
  |cons c y=>simp[Aa.Qm] at h⊢;exact⟨Aa.UN h.1,Aa.MU h.2⟩
theorem Aa.aJ:∀{a b:List (List Aa)},Aa.Qn a b=true->a=b
 |[],b,h=>by cases b<;>simp[Aa.Qn] at h⊢
 |a::x,b,h=>by
  cases b with
  |nil=>simp[Aa.Qn] at h
  |cons c y=>simp[Aa.Qn] at h⊢;exact⟨Aa.MU h.1,Aa.aJ h.2⟩
end
theorem BG.IX(σ:BG):∀(a b:List (Nat×D9)),σ.Eh (a++b)=(σ.Eh a).Eh b
 |[],_=>rfl
 |(s,x)::a,b=>BG.IX (σ.set s x) a b
theorem BG.IY:∀(ws:List (Nat×D9)) (σ:BG),(σ.Eh ws).length=σ.length
 |[],_=>rfl
 |(s,x)::ws,σ=>by rw[BG.Eh,BG.IY ws];simp
theorem BG.UO(σ:BG)(s t:Nat)(x:D9):BG.at (σ.set s x) t=if s=t/\t<σ.length then x else σ.at t:=by
 by_cases h:s=t
 .subst h;by_cases hl:s<σ.length;·simp[BG.at,List.getD,hl]
  .simp[BG.at,List.getD,hl]
 .simp[BG.at,List.getD,Af h,h]
theorem BG.F9:∀(ws:List (Nat×D9)) (σ:BG) (t:Nat),(∀p∈ws,p.1≠t)->(σ.Eh ws).at t=σ.at t
 |[],_,_,_=>rfl
 |(s,x)::ws,σ,t,h=>by rw[BG.Eh,BG.F9 ws _ t λp hp=>h p (by simp[hp]),BG.UO,if_neg];exact λe=>h (s,x) (by simp) e.1
theorem BG.UP:∀(ws:List (Nat×D9)) (σ:BG) (t:Nat),(σ.Eh ws).at t=σ.at t\/∃p∈ws,p.1=t/\(σ.Eh ws).at t=p.2
 |[],_,_=> .inl rfl
 |(s,x)::ws,σ,t=>by
  rcases BG.UP ws (σ.set s x) t with h|⟨p,hp,h1,h2⟩
  .rw[BG.UO] at h;by_cases hc:s=t/\t<σ.length;·rw[if_pos hc] at h;exact .inr ⟨(s,x),by simp,hc.1,h⟩
   .rw[if_neg hc] at h;exact .inl h
  .exact .inr ⟨p,by simp[hp],h1,h2⟩
theorem BG.It:∀(ws:List (Nat×D9)) (σ τ:BG) (t:Nat),τ.length=σ.length->τ.at t=σ.at t->(τ.Eh ws).at t=(σ.Eh ws).at t
 |[],_,_,_,_,h=>h
 |(s,x)::ws,σ,τ,t,hl,h=>by refine BG.It ws _ _ t (by simpa using hl) ?_;rw[BG.UO,BG.UO,hl,h]
theorem BG.ext{σ τ:BG}(hl:τ.length=σ.length)(h:∀t,τ.at t=σ.at t):τ=σ:=by apply List.ext_getElem hl;intro i h1 h2;have:=h i;simpa[BG.at,List.getD,h1,h2] using this
theorem BG.qX{σ:BG}{a b:List (Nat×D9)}(h:∀p∈a,∀q∈b,p.1≠q.1):(σ.Eh a).Eh b=(σ.Eh b).Eh a:=by
 refine BG.ext (by simp[BG.IY]) λt=>?_;by_cases ha:∀p∈a,p.1≠t;·rw[BG.F9 a (σ.Eh b) t ha];exact BG.It b _ _ t (by simp[BG.IY]) (BG.F9 a σ t ha)
 .have⟨p,hp,hpt⟩:∃p∈a,p.1=t:=Classical.byContradiction λhn=>ha λp hp e=>hn ⟨p,hp,e⟩;have hb:∀q∈b,q.1≠t:=λq hq e=>h p hp q hq (by rw[hpt,e]);rw[BG.F9 b (σ.Eh a) t hb];exact(BG.It a _ _ t (by simp[BG.IY]) (BG.F9 b σ t hb)).symm
theorem MV{σ:BG}{ds:List Nat}:LM σ ds=true↔∀x t o,σ.at x= .EI t o->t∉ds:=by
 unfold LM;rw[EL];constructor
 .intro h x t o hx;by_cases hl:x<σ.length;·have:=h (σ.at x) (by simp[BG.at,List.getD,hl]);rw[hx] at this;simpa using this
  .simp[BG.at,List.getD,hl] at hx
 .intro h s hs;obtain⟨i,hi⟩:=CU hs;cases s with
  |EI t o=>have:=h i t o (by simp[BG.at,List.getD,hi]);simpa using this
  |_=>rfl
theorem qY{a b:List Nat}:Sy a b=true↔∃x,x∈a/\x∈b:=by simp[Sy]
structure St where
 idx:Nat
 fp:FP
 fl:Option Jt
def JY(i:Nat)(r:Et)(σ:BG):Option Jt:=
 match r with
 | .load n p (some d)=>match σ.at d with
  | .val v=>some {idx:=i,n,p,v}
  |_=>none
 |_=>none
theorem UQ(i:Nat)(r:Et)(σ:BG)(fl:List Jt):Lv i r σ fl=(JY i r σ).toList++fl:=by
 cases r with
 |load n p dst=>
  cases dst with
  |none=>rfl
  |some d=>simp only[Lv,JY];cases σ.at d<;>rfl
 |_=>rfl
theorem WB{i:Nat}{r:Et}{σ τ:BG}(h:∀d∈r.wf,τ.at d=σ.at d):JY i r τ=JY i r σ:=by
 cases r with
 |load n p dst=>
  cases dst with
  |none=>rfl
  |some d=>simp only[JY];rw[h d (by simp[Et.wf])]
 |_=>rfl
def LA(d:Option Nat)(σ σ':BG):Prop:=
 match d with
 |none=>σ'=σ
 |some d=>match σ.at d with
  | .val v=>∃b,v= .bool b/\σ'=σ.set d (.Nv b)
  |_=>σ'=σ
section
variable{C:FJ}{fid:FuncId}{ops:List Oper}{run:IT->Ag->Option Js}{σ τ σ':BG}{h h':Ag}
def NX(C:FJ)(fid:FuncId)(ops:List Oper)(run:IT->Ag->Option Js)(s:St)(σ:BG)(h:Ag)(σ':BG)(h':Ag):Prop:=
 ∃o,ops[s.idx]?=some o/\
  ((HX ops σ o = .L6 false /\ s.fp = Tf C ops σ o none /\ s.fl = none /\ σ' = σ.put o.dst .skip /\ h' = h) \/
   ∃ r σ1, HX ops σ o = .L6 true /\ Fv C fid ops σ o = some r /\ s.fp = Tf C ops σ o (some r) /\ r.L9 C run (σ.drop r.news) h σ1 h' /\ s.fl = JY s.idx r σ1 /\
     LA (if Qr ops s.idx then o.dst else none) σ1 σ')
theorem UR(σ:BG)(d:Option Nat)(x:D9):σ.put d x=σ.Eh (d.toList.map λs=>(s,x)):=by cases d<;>rfl
theorem qZ(σ:BG)(d:Option (Nat×Aa)):σ.Dn d=σ.Eh (d.toList.map λp=>(p.1,.val p.2)):=by cases d<;>rfl
theorem Xl{r:Et}(hd:r.L9 C run σ h σ' h'):∃ws,σ'=σ.Eh ws/\(∀p∈ws,p.1∈r.wf)/\(∀p∈ws,∀t o,p.2= .EI t o->t∈r.kK)/\∀τ,r.L9 C run τ h (τ.Eh ws) h':=by
 have one:∀(d:Option Nat) (x:D9),(∀t o,x≠ .EI t o)->σ'=σ.put d x->d.toList⊆r.wf->(∀τ,r.L9 C run τ h (τ.put d x) h')->
   ∃ws,σ'=σ.Eh ws/\(∀p∈ws,p.1∈r.wf)/\(∀p∈ws,∀t o,p.2= .EI t o->t∈r.kK)/\∀τ,r.L9 C run τ h (τ.Eh ws) h':=by
  intro d x hx he hw ht;refine⟨d.toList.map λs=>(s,x),by rw[<-UR];exact he,λp hp=>?_,λp hp t o hl=>?_,λτ=>by rw[<-UR];exact ht τ⟩;·obtain⟨s,hs,rfl⟩:=Bl.1 hp;exact hw hs
  .obtain⟨s,hs,rfl⟩:=Bl.1 hp;exact absurd hl (hx t o)
 have ZW:∀(dem:Option (Nat×Aa)) (d:Option Nat) (x:D9),(∀t o,x≠ .EI t o)->σ'=(σ.Dn dem).put d x->d.toList⊆r.wf->(dem.map (·.1)).toList⊆r.wf->(∀τ,r.L9 C run τ h ((τ.Dn dem).put d x) h')->
   ∃ws,σ'=σ.Eh ws/\(∀p∈ws,p.1∈r.wf)/\(∀p∈ws,∀t o,p.2= .EI t o->t∈r.kK)/\∀τ,r.L9 C run τ h (τ.Eh ws) h':=by
  intro dem d x hx he hw vX ht;have e:∀τ:BG,(τ.Dn dem).put d x=τ.Eh ((dem.toList.map λp=>(p.1,.val p.2))++d.toList.map λs=>(s,x)):=λτ=>by rw[BG.IX,<-qZ,<-UR]
  refine⟨_,by rw[he,e],λp hp=>?_,λp hp t o hl=>?_,λτ=>by rw[<-e];exact ht τ⟩
  .rcases Ap.1 hp with hp|hp
   .obtain⟨q,hq,rfl⟩:=Bl.1 hp;exact vX (by cases dem<;>simp_all)
   .obtain⟨s,hs,rfl⟩:=Bl.1 hp;exact hw hs
  .rcases Ap.1 hp with hp|hp
   .obtain⟨q,hq,rfl⟩:=Bl.1 hp;cases hl
   .obtain⟨s,hs,rfl⟩:=Bl.1 hp;exact absurd hl (hx t o)
 cases r with
 |pure ws=>obtain⟨rfl,rfl⟩:=hd;refine⟨ws,rfl,λp hp=>Bl.2 ⟨p,hp,rfl⟩,λp hp t o hl=>?_,λτ=>⟨rfl,rfl⟩⟩;exact Cj.2 ⟨p.2,Bl.2 ⟨p,hp,rfl⟩,by rw[hl]⟩
 |op p args dst own dem=>obtain⟨v,hv,rfl,rfl⟩:=hd;exact ZW dem dst _ (by cases own<;>simp) rfl (by simp[Et.wf]) (by simp[Et.wf]) λτ=>⟨v,hv,rfl,rfl⟩
 |box n v d=>obtain⟨hn,rfl,rfl⟩:=hd;exact one (some d) _ (by simp) rfl (by simp[Et.wf]) λτ=>⟨hn,rfl,rfl⟩
 |KF fn x b fz d=>
  obtain⟨rfl,rfl⟩:=hd;refine⟨(fz.map λ(s,cs)=>(s,.val (.CB cs)))++[(d,.val (.func fn x b))],by rw[BG.IX];rfl,λp hp=>?_,λp hp t o hl=>?_,λτ=>⟨by rw[BG.IX];rfl,rfl⟩⟩
  .rcases Ap.1 hp with hp|hp
   .obtain⟨q,hq,rfl⟩:=Bl.1 hp;exact List.mem_cons_of_mem _ (Bl.2 ⟨q,hq,rfl⟩)
   .simp at hp;subst hp;simp[Et.wf]
  .rcases Ap.1 hp with hp|hp
   .obtain⟨q,hq,rfl⟩:=Bl.1 hp;cases hl
   .simp at hp;subst hp;cases hl
 |LL s off n v own dem ver cells owned=>obtain⟨hn,rfl,rfl⟩:=hd;exact ZW dem (some s) _ (by simp) rfl (by simp[Et.wf]) (by simp[Et.wf]) λτ=>⟨hn,rfl,rfl⟩
 |load n p dst=>obtain⟨v,hv,rfl,rfl⟩:=hd;exact one dst _ (by simp) rfl (by simp[Et.wf]) λτ=>⟨v,hv,rfl,rfl⟩
 |store n p v=>obtain⟨hv,rfl⟩:=hd;exact one none .undef (by simp) rfl (by simp) λτ=>⟨hv,rfl⟩
 |alloc n v dst=>obtain⟨hn,rfl,rfl⟩:=hd;exact one dst _ (by simp) rfl (by simp[Et.wf]) λτ=>⟨hn,rfl,rfl⟩
 |call f args dst=>obtain⟨v,hv,rfl⟩:=hd;exact one dst _ (by intro t o;split<;>simp) rfl (by simp[Et.wf]) λτ=>⟨v,hv,rfl⟩
 |FH g args dst=>obtain⟨f,x,v,h1,h2,rfl⟩:=hd;exact one dst _ (by simp) rfl (by simp[Et.wf]) λτ=>⟨f,x,v,h1,h2,rfl⟩
 |Bk f args dst=>obtain⟨Gv,v,h1,h2,h3,rfl,rfl⟩:=hd;exact one dst _ (by simp) rfl (by simp[Et.wf]) λτ=>⟨Gv,v,h1,h2,h3,rfl,rfl⟩
 |O4 dst=>obtain⟨rfl,rfl⟩:=hd;exact one dst _ (by simp) rfl (by simp[Et.wf]) λτ=>⟨rfl,rfl⟩
 |J4 m k v=>obtain⟨hv,rfl⟩:=hd;exact one none .undef (by simp) rfl (by simp) λτ=>⟨hv,rfl⟩
 |L5 z ok m k dst=>obtain⟨v,hv,rfl,rfl⟩:=hd;exact one dst _ (by simp) rfl (by simp[Et.wf]) λτ=>⟨v,hv,rfl,rfl⟩
 |make z b zero l c dst=>obtain⟨v,hv,rfl⟩:=hd;exact one dst _ (by simp) rfl (by simp[Et.wf]) λτ=>⟨v,hv,rfl⟩
 |Hw z b s x dst dem=>obtain⟨v,hv,rfl⟩:=hd;exact ZW dem dst _ (by simp) rfl (by simp[Et.wf]) (by simp[Et.wf]) λτ=>⟨v,hv,rfl⟩
 |Fs z b s x dst=>obtain⟨v,hv,rfl⟩:=hd;exact one dst _ (by simp) rfl (by simp[Et.wf]) λτ=>⟨v,hv,rfl⟩
 |FX z b s x dst dem=>obtain⟨v,hv,rfl,rfl⟩:=hd;exact ZW dem dst _ (by simp) rfl (by simp[Et.wf]) (by simp[Et.wf]) λτ=>⟨v,hv,rfl,rfl⟩
 |Fb s dst=>obtain⟨v,hv,rfl⟩:=hd;exact one dst _ (by simp) rfl (by simp[Et.wf]) λτ=>⟨v,hv,rfl⟩
 |Tc s dst=>obtain⟨v,u,h1,h2,rfl⟩:=hd;exact one dst _ (by simp) rfl (by simp[Et.wf]) λτ=>⟨v,u,h1,h2,rfl⟩
 |mem o args dst=>obtain⟨v,hv,rfl⟩:=hd;exact one dst _ (by intro t o';split<;>simp) rfl (by simp[Et.wf]) λτ=>⟨v,hv,rfl⟩
theorem RL{r:Et}(hd:r.L9 C run σ h σ' h')(he:r.Qj=false):h'=h/\
  (r.hl=false->∀h2,r.L9 C run σ h2 σ' h2)/\
  ∀n p d,r= .load n p (some d)->∃v,A9 h n p=some v/\σ'=σ.set d (.val v)/\∀h2,A9 h2 n p=some v->r.L9 C run σ h2 σ' h2:=by
 cases r<;>simp only[Et.Qj] at he<;>try(exact absurd he (by decide))
 case pure ws=>obtain⟨rfl,rfl⟩:=hd;exact⟨rfl,λ_ _=>⟨rfl,rfl⟩,by simp⟩
 case op p args dst own dem=>obtain⟨v,hv,rfl,rfl⟩:=hd;exact⟨rfl,λ_ _=>⟨v,hv,rfl,rfl⟩,by simp⟩
 case box n v d=>obtain⟨hn,rfl,rfl⟩:=hd;exact⟨rfl,λ_ _=>⟨hn,rfl,rfl⟩,by simp⟩
 case KF fn x b fz d=>obtain⟨rfl,rfl⟩:=hd;exact⟨rfl,λ_ _=>⟨rfl,rfl⟩,by simp⟩
 case LL s off n v own dem ver cells owned=>obtain⟨hn,rfl,rfl⟩:=hd;exact⟨rfl,λ_ _=>⟨hn,rfl,rfl⟩,by simp⟩
 case load n p dst=>obtain⟨v,hv,rfl,rfl⟩:=hd;refine⟨rfl,λhh=>absurd hh (by simp[Et.hl]),λn' p' d he=>?_⟩;cases he;exact⟨v,hv,rfl,λh2 h2v=>⟨v,h2v,rfl,rfl⟩⟩
 case L5 z ok m k dst=>obtain⟨v,hv,rfl,rfl⟩:=hd;exact⟨rfl,λhh=>absurd hh (by simp[Et.hl]),by simp⟩
 case Bk f args dst=>obtain⟨Gv,v,h1,h2,h3,rfl,rfl⟩:=hd;exact⟨rfl,λ_ _=>⟨Gv,v,h1,h2,h3,rfl,rfl⟩,by simp⟩
theorem SK{ds:List Nat}(hn:LM σ ds=true):σ.drop ds=σ:=by
 refine BG.ext (BG.length_drop σ ds) λt=>?_;rw[BG.TS];cases hx:σ.at t with
 |EI t' o=>have:=MV.1 hn t t' o hx;simp[this]
 |_=>rfl
theorem Ph{o:Oper}(h:∀t∈E1 ops o,τ.at t=σ.at t):HX ops τ o=HX ops σ o:=by
 unfold HX;unfold E1 at h;cases hg:o.guard with
 |none=>rfl
 |some g=>
  obtain⟨j,want⟩:=g;rw[hg] at h;simp only at h⊢;cases hd:(ops[j]?).bind (·.dst) with
  |none=>rfl
  |some s=>
   rw[hd] at h;simp only
   rw[h s (by simp)]
theorem Tn{o:Oper}{r:Et}(hc:Fv C fid ops σ o=some r)(ht:∀t∈JA o.op.operands.toList,τ.at t=σ.at t)(hb:∀s∈He C σ o,τ.at s=σ.at s):He C τ o=He C σ o:=by
 have h:TU C σ τ o.op.operands.toList:= .kV ht
 unfold He at hb⊢
 cases ho:o.op with
 |load t x=>
  rw[ho] at h hb
  simp only at hb⊢
  have hn:Fu C σ x≠none:=λhe=>by
   unfold Fv at hc
   simp only[ho] at hc
   split at hc
   .unfold Kr at hc;rw[he] at hc;split at hc<;>simp_all
   .cases hc
  unfold MI
  rw[h.addr (by simp[Op.operands]) hb hn]
 |store t x y=>
  rw[ho] at h hb
  simp only at hb⊢
  have hn:Fu C σ x≠none:=λhe=>by
   unfold Fv at hc
   simp only[ho] at hc
   split at hc
   .unfold ID at hc;rw[he] at hc;split at hc<;>simp_all
   .cases hc
  unfold MI
  rw[h.addr (by simp[Op.operands]) hb hn]
 |_=>rfl
theorem SL{xs:List D9}{t o:Nat}(h: .EI t o∈xs):t∈TP xs:=Cj.2 ⟨_,h,rfl⟩
theorem NX.spec{s:St}(hs:NX C fid ops run s σ h σ' h')(hf:s.fp.RD=true):
  ∃ws,σ'=σ.Eh ws/\(∀p∈ws,p.1∈s.fp.wf)/\(∀p∈ws,∀t o,p.2= .EI t o->t∈s.fp.lr)/\(∀x∈s.fp.wf,∀t o,σ.at x= .EI t o->t∈s.fp.lr)/\LM σ s.fp.news=true/\(s.fp.Qj=false->h'=h)/\
   (s.fp.Qj=false->s.fp.hl=true->∃f,s.fl=some f)/\
   ∀(τ:BG) (h2 Xm:Ag),τ.length=σ.length->(∀x∈s.fp.rs++s.fp.wf,τ.at x=σ.at x)->LM τ s.fp.news=true->
    ((h2=h/\Xm=h')\/(s.fp.Qj=false/\Xm=h2/\(s.fp.hl=true->∀f,s.fl=some f->A9 h2 f.n f.p=some f.v)))->NX C fid ops run s τ h2 (τ.Eh ws) Xm:=by
 obtain⟨o,ho,⟨hg,yw,Gv,rfl,rfl⟩|⟨r,σ1,hg,hc,yw,hd,Gv,ha⟩⟩:=hs
 .rw[yw] at hf⊢;refine⟨o.dst.toList.map λd=>(d,.skip),UR _ _ _,λp hp=>?_,λp hp t k hl=>?_,λx hx t k hl=>?_,MV.2 (by simp[Tf]),λ_=>rfl,λ_ hh=>absurd hh (by simp[Tf]),λτ h2 Xm hlen vY _ Ij=>?_⟩;·obtain⟨d,hd,rfl⟩:=Bl.1 hp;exact hd
  .obtain⟨d,hd,rfl⟩:=Bl.1 hp;cases hl
  .exact SL (o:=k) (Bl.2 ⟨x,hx,hl⟩)
  .have hh:Xm=h2:=by rcases Ij with⟨e1,e2⟩|⟨_,e,_⟩<;>first|exact e|rw[e1,e2]
   refine⟨o,ho,.inl ⟨?_,?_,Gv,(UR _ _ _).symm,hh⟩⟩;·rw[Ph λt ht=>vY t (CF _ ht)];exact hg
   .rw[yw];have e:o.dst.toList.map τ.at=o.dst.toList.map σ.at:=List.map_congr_left λx hx=>vY x (BV _ hx);simp only[Tf,e]
 .rw[yw] at hf⊢;have vZ:r.RD σ=true:=hf;have Nx:LM σ r.news=true:=by unfold Et.RD at vZ;rw[BK] at vZ;exact vZ.1
  rw[SK Nx] at hd;obtain⟨v8,rfl,hw,hlr,X5⟩:=Xl hd;have aJl:∃ws2:List (Nat×D9),σ'=(σ.Eh v8).Eh ws2/\(∀p∈ws2,o.dst=some p.1/\∃b,p.2= .Nv b)/\∀τ:BG,τ.length=σ.length->(∀x∈r.wf++o.dst.toList,τ.at x=σ.at x)->LA (if Qr ops s.idx then o.dst else none) (τ.Eh v8) ((τ.Eh v8).Eh ws2):=by
   by_cases hig:Qr ops s.idx=true
   .rw[if_pos hig] at ha;cases QE:o.dst with
    |none=>rw[QE] at ha;exact⟨[],ha,by simp,λτ _ _=>by simp[hig,LA,BG.Eh]⟩
    |some d=>
     rw[QE] at ha;simp only[LA] at ha;have ud:∀τ:BG,τ.length=σ.length->(∀x∈r.wf++[d],τ.at x=σ.at x)->(τ.Eh v8).at d=(σ.Eh v8).at d:=λτ hl vY=>BG.It v8 σ τ d hl (vY d (by simp));cases hx:(σ.Eh v8).at d with
     |val v=>rw[hx] at ha;obtain⟨b,rfl,rfl⟩:=ha;refine⟨[(d,.Nv b)],rfl,by simp,λτ hl vY=>?_⟩;simp only[hig,BO,LA];rw[ud τ hl vY,hx];exact⟨b,rfl,rfl⟩
     |_=>rw[hx] at ha;refine⟨[],ha,by simp,λτ hl vY=>?_⟩;simp only[hig,BO,LA];rw[ud τ hl vY,hx];rfl
   .rw[if_neg hig] at ha;exact⟨[],ha,by simp,λτ _ _=>by rw[if_neg hig];rfl⟩
  obtain⟨ws2,rfl,vX,aDA⟩:=aJl;have hhl:r.hl=true->∃n p d,r= .load n p (some d)/\d<σ.length:=λhh=>by
   unfold Et.RD at vZ;rw[BK] at vZ;cases r with
   |load n p dst=>
    cases dst with
    |none=>exact absurd vZ.2 (by simp)
    |some d=>exact⟨n,p,d,rfl,by simpa using vZ.2⟩
   |L5 _ _ _ _ _=>exact absurd vZ.2 (by simp)
   |_=>simp[Et.hl] at hh
  have aDB:r.Qj=false->∀n p d,r= .load n p (some d)->d<σ.length->∃v,A9 h n p=some v/\s.fl=some {idx:=s.idx,n,p,v}:=by intro he n p d hr fH;obtain⟨v,q1,q2,_⟩:=(RL hd he).2.2 n p d hr;refine⟨v,q1,?_⟩;rw[Gv,hr];simp only[JY];rw[q2,BG.EV fH]
  have aJm:∀(τ:BG) h2 Xm,((h2=h/\Xm=h')\/(r.Qj=false/\Xm=h2/\(r.hl=true->∀f,s.fl=some f->A9 h2 f.n f.p=some f.v)))->r.L9 C run τ h2 (τ.Eh v8) Xm:=by
   intro τ h2 Xm Ij;rcases Ij with⟨rfl,rfl⟩|⟨he,rfl,Wg⟩
   .exact X5 τ
   .obtain⟨_,k2,k3⟩:=RL (X5 τ) he;cases hh:r.hl with
    |false=>exact k2 hh _
    |true=>obtain⟨n,p,d,hr,fH⟩:=hhl hh;obtain⟨v,q1,q2⟩:=aDB he n p d hr fH;obtain⟨v',p1,_,p3⟩:=k3 n p d hr;rw[q1] at p1;cases p1;exact p3 _ (Wg hh _ q2)
  refine⟨v8++ws2,by rw[BG.IX],λp hp=>?_,λp hp t k hl=>?_,λx hx t k hl=>?_,Nx,λhe=>(RL hd he).1,λhe hh=>?_,λτ h2 Xm hlen vY ue Ij=>?_⟩
  .rcases Ap.1 hp with hp|hp
   .exact CF _ (hw p hp)
   .exact BV _ (by rw[(vX p hp).1];simp)
  .rcases Ap.1 hp with hp|hp
   .exact BV _ (hlr p hp t k hl)
   .obtain⟨_,b,e⟩:=vX p hp;rw[e] at hl;cases hl
  .exact CF _ (SL (o:=k) (Bl.2 ⟨x,hx,hl⟩))
  .obtain⟨n,p,d,hr,fH⟩:=hhl hh;obtain⟨v,_,q2⟩:=aDB he n p d hr fH;exact⟨_,q2⟩
  .have hrs:∀t∈E1 ops o++JA o.op.operands.toList++He C σ o,τ.at t=σ.at t:=λt ht=>vY t (CF _ ht);have hwf:∀t∈r.wf++o.dst.toList,τ.at t=σ.at t:=λt ht=>vY t (BV _ ht);have ht:∀t∈JA o.op.operands.toList,τ.at t=σ.at t:=λt ht=>hrs t (by simp[ht]);have hb:∀t∈He C σ o,τ.at t=σ.at t:=λt ht=>hrs t (by simp[ht]);have aDC:LM τ r.news=true:=ue;refine⟨o,ho,.inr ⟨r,τ.Eh v8,?_,UM hc ht hb,?_,?_,?_,?_⟩⟩;·rw[Ph λt ht=>hrs t (by simp[ht])];exact hg
   .rw[yw];have e1:(r.wf++o.dst.toList).map τ.at=(r.wf++o.dst.toList).map σ.at:=List.map_congr_left λx hx=>hwf x hx;have e2:r.RD τ=r.RD σ:=by unfold Et.RD;rw[Nx,aDC,hlen]
    simp only[Tf,e1,e2,Tn hc ht hb]
   .rw[SK aDC];exact aJm τ h2 Xm Ij
   .rw[Gv];exact(WB λd hd=>BG.It v8 σ τ d hlen (hwf d (CF _ hd))).symm
   .rw[BG.IX];exact aDA τ hlen hwf
end
end Go.Am
end
section
namespace Go.Am
open Go
section
variable{C:FJ}{fid:FuncId}{ops:List Oper}{run:IT->Ag->Option Js}{an:List Nat}
theorem KO{a b:List Nat}(h:(!Sy a b)=true){x:Nat}(hx:x∈a):x∉b:=λhb=>by have:Sy a b=true:=qY.2 ⟨x,hx,hb⟩;simp[this] at h
theorem swap{p s:St}{σ σa σ1:BG}{h ha h1:Ag}(hp:NX C fid ops run p σ h σa ha)(hs:NX C fid ops run s σa ha σ1 h1)(hok:PH p.fp s.fp=true)
  (Wg:s.fp.Qj=true->∀f,p.fl=some f->A9 h1 f.n f.p=some f.v):
  ∃σs TR,NX C fid ops run s σ h σs TR/\NX C fid ops run p σs TR σ1 h1/\(s.fp.Qj=true->TR=h1)/\(p.fp.Qj=true->h1=ha):=by
 unfold PH FP.apart at hok;simp only[BK] at hok;obtain⟨⟨⟨⟨pf,sf⟩,⟨⟨a1,a2⟩,a3⟩,a4⟩,he⟩,hl⟩:=hok;obtain⟨wsp,rfl,hpw,ZE,hpo,yx,hph,yy,uf⟩:=hp.spec pf;obtain⟨wss,rfl,hsw,dU,hso,hsn,dR,hsf,wA⟩:=hs.spec sf;have outp:∀x∈s.fp.rs++s.fp.wf,(σ.Eh wsp).at x=σ.at x:=λx hx=>BG.F9 wsp σ x λq hq e=>KO a1 (hpw q hq) (by rw[e];exact hx);have hnsσ:LM σ s.fp.news=true:=by
  rw[MV] at hsn⊢;intro x t o hx;by_cases hw:x∈p.fp.wf;·exact KO a3 (hpo x hw t o hx)
  .refine hsn x t o ?_;rw[BG.F9 wsp σ x λq hq e=>hw (by rw[<-e];exact hpw q hq)];exact hx
 have hlen:∀(τ:BG) (ws:List (Nat×D9)),(τ.Eh ws).length=τ.length:=λτ ws=>BG.IY ws τ;have ug:(σ.Eh wss).Eh wsp=(σ.Eh wsp).Eh wss:=(BG.qX λq hq r hr e=>by have:=KO a1 (hpw q hq);exact this (BV _ (by rw[e];exact hsw r hr))).symm
 have outs:∀x∈p.fp.rs++p.fp.wf,(σ.Eh wss).at x=σ.at x:=λx hx=>BG.F9 wss σ x λq hq e=>by
  rcases Ap.1 hx with hx|hx
  .exact KO a2 (hsw q hq) (by rw[e];exact hx)
  .exact KO a1 hx (BV _ (by rw[<-e];exact hsw q hq))
 have hnp:LM (σ.Eh wss) p.fp.news=true:=by
  rw[MV] at yx⊢;intro x t o hx;rcases BG.UP wss σ x with h0|⟨q,hq,_,h2⟩
  .exact yx x t o (by rw[<-h0];exact hx)
  .rw[h2] at hx;exact KO a4 (dU q hq t o hx)
 by_cases Ku:s.fp.Qj=true
 .have hpe:p.fp.Qj=false:=by
   cases hq:p.fp.Qj with
   |false=>rfl
   |true=>simp[Ku,hq] at he
  have hha:ha=h:=hph hpe;subst hha;refine⟨σ.Eh wss,h1,wA σ ha h1 (hlen σ wsp).symm (λx hx=>(outp x hx).symm) hnsσ (.inl ⟨rfl,rfl⟩),?_,λ_=>rfl,λe=>by rw[hpe] at e;cases e⟩;rw[<-ug];exact uf (σ.Eh wss) h1 h1 (hlen σ wss) outs hnp (.inr ⟨hpe,rfl,λ_ f hf=>Wg Ku f hf⟩)
 .have aDD:s.fp.Qj=false:=by simpa using Ku
  have yz:h1=ha:=dR aDD;subst yz;refine⟨σ.Eh wss,h,?_,?_,λe=>absurd e Ku,λ_=>rfl⟩
  .by_cases hpe:p.fp.Qj=true;·refine wA σ h h (hlen σ wsp).symm (λx hx=>(outp x hx).symm) hnsσ (.inr ⟨aDD,rfl,λhh=>?_⟩);simp[hpe,hh] at hl
   .have aJp:p.fp.Qj=false:=by simpa using hpe
    have hha:=hph aJp;exact wA σ h h (hlen σ wsp).symm (λx hx=>(outp x hx).symm) hnsσ (.inl ⟨hha.symm,hha.symm⟩)
  .rw[<-ug];exact uf (σ.Eh wss) h h1 (hlen σ wss) outs hnp (.inl ⟨rfl,rfl⟩)
inductive Steps(C:FJ)(fid:FuncId)(ops:List Oper)(run:IT->Ag->Option Js)(an:List Nat):List Jt->List St->BG->Ag->BG->Ag->Prop
 |nil {fl:List Jt} {σ:BG} {h:Ag}:Steps C fid ops run an fl [] σ h σ h
 |cons {fl:List Jt} {s:St} {L:List St} {σ σ1 σf:BG} {h h1 hf:Ag}:NX C fid ops run s σ h σ1 h1->(s.fp.Qj=true->∀f∈fl,DZ an f.idx s.idx=false->A9 h1 f.n f.p=some f.v)->
  Steps C fid ops run an (s.fl.toList++fl) L σ1 h1 σf hf->Steps C fid ops run an fl (s::L) σ h σf hf
theorem Steps.sub{fl:List Jt}{L:List St}{σ σf:BG}{h hf:Ag}(hs:Steps C fid ops run an fl L σ h σf hf):∀{fl':List Jt},(∀f∈fl',f∈fl)->Steps C fid ops run an fl' L σ h σf hf:=by
 induction hs with
 |nil=>intro fl' _;exact .nil
 |cons h1 h2 _ ih=>
  intro fl' Me;refine .cons h1 (λhe f hf hb=>h2 he f (Me f hf) hb) (ih λf hf=>?_);rcases Ap.1 hf with hf|hf
  .exact CF _ hf
  .exact BV _ (Me f hf)
theorem NX.y_{s:St}{σ σ':BG}{h h':Ag}(hs:NX C fid ops run s σ h σ' h'){f:Jt}(hf:s.fl=some f):f.idx=s.idx:=by
 obtain⟨o,_,⟨_,_,Gv,_⟩|⟨r,σ1,_,_,_,_,Gv,_⟩⟩:=hs;·rw[Gv] at hf;cases hf
 .rw[Gv] at hf;unfold JY at hf;split at hf
  .split at hf;·cases hf;rfl
   .cases hf
  .cases hf
theorem Steps.lt{fl:List Jt}{L:List St}{σ σf:BG}{h hf:Ag}(hs:Steps C fid ops run an fl L σ h σf hf):∀q∈L,q.idx<ops.length:=by
 induction hs with
 |nil=>simp
 |cons h1 _ _ ih=>
  intro q hq;rcases AP.1 hq with rfl|hq
  .obtain⟨o',h2,_⟩:=h1;exact(Ae.1 h2).1
  .exact ih q hq
theorem uh{s:St}{B:List St}{σf:BG}{hf:Ag}:∀{A:List St} {fl:List Jt} {σ:BG} {h:Ag},Steps C fid ops run an fl (A++s::B) σ h σf hf->(∀p∈A,PH p.fp s.fp=true/\DZ an p.idx s.idx=false)->
  ∃σ1 h1,NX C fid ops run s σ h σ1 h1/\(s.fp.Qj=true->∀f∈fl,DZ an f.idx s.idx=false->A9 h1 f.n f.p=some f.v)/\Steps C fid ops run an (s.fl.toList++fl) (A++B) σ1 h1 σf hf
 |[],fl,σ,h,hs,_=>by
  cases hs with
  |cons h1 h2 h3=>exact⟨_,_,h1,h2,h3⟩
 |p::A,fl,σ,h,hs,hA=>by
  cases hs with
  |cons h1 h2 h3=>
   rename_i σa ha;obtain⟨σ1,tv,k1,k2,k3⟩:=uh h3 λq hq=>hA q (by simp[hq]);obtain⟨hok,aJq⟩:=hA p (by simp);obtain⟨σs,TR,w1,w2,w3,w4⟩:=swap h1 k1 hok λhe f hf=>k2 he f (by rw[hf];simp) (by rw[h1.y_ hf];exact aJq);refine⟨σs,TR,w1,λhe f hf hb=>?_,.cons w2 (λhe f hf hb=>?_) (k3.sub λf hf=>?_)⟩;·rw[w3 he];exact k2 he f (BV _ hf) hb
   .rw[w4 he];rcases Ap.1 hf with hf|hf
    .exfalso;unfold PH at hok;simp only[BK] at hok;obtain⟨⟨⟨⟨_,sf⟩,_⟩,hee⟩,hl⟩:=hok;cases fI:s.fl with
     |none=>rw[fI] at hf;simp at hf
     |some g=>
      have hhl:s.fp.hl=true:=by
       obtain⟨o,_,⟨_,_,Gv,_⟩|⟨r,σ1',_,_,yw,_,Gv,_⟩⟩:=k1;·rw[Gv] at fI;cases fI
       .rw[Gv] at fI;unfold JY at fI;split at fI;·rw[yw];rfl
        .cases fI
      simp[he,hhl] at hl
    .exact h2 he f hf hb
   .rcases Ap.1 hf with hf|hf
    .exact BV _ (CF _ hf)
    .rcases Ap.1 hf with hf|hf
     .exact CF _ hf
     .exact BV _ (BV _ hf)
theorem Pj{Dw:List Nat}{x:Nat}:∀(ds:List Nat) (m:Nat),(ds.foldl (λm e=>m|||bit e|||Dw.getD e 0) m).testBit x=true↔m.testBit x=true\/∃e∈ds,x=e\/(Dw.getD e 0).testBit x=true
 |[],m=>by simp
 |d::ds,m=>by
  rw[List.foldl_cons,Pj ds];simp only[Nat.testBit_or,bit,Nat.testBit_two_pow,Bool.or_eq_true,DK,AP,exists_eq_or_imp];constructor
  .rintro((h|h)|h)
   .rcases h with h|h
    .exact .inl h
    .exact .inr (.inl (.inl h.symm))
   .exact .inr (.inl (.inr h))
   .exact .inr (.inr h)
  .rintro(h|(h|h)|h);·exact .inl (.inl (.inl h))
   .exact .inl (.inl (.inr h.symm))
   .exact .inl (.inr h)
   .exact .inr h
theorem KH:∀(l:List Oper) (Dw:List Nat) (i:Nat),i<Dw.length->(J6 Dw l).getD i 0=Dw.getD i 0
 |[],Dw,i,h=>rfl
 |o::l,Dw,i,h=>by rw[J6,KH l _ i (by simp;omega)];simp[List.getD,Ad h]
theorem Pk:∀(l:List Oper) (Dw:List Nat) (k:Nat) (o:Oper),l[k]?=some o->(∀e∈Oper.Te o,e<Dw.length+k)->∀x,
  ((J6 Dw l).getD (Dw.length+k) 0).testBit x=true↔∃e∈Oper.Te o,x=e\/((J6 Dw l).getD e 0).testBit x=true
 |[],Dw,k,o,h,_,x=>by simp at h
 |o'::l,Dw,0,o,h,hd,x=>by
  simp at h;subst h;rw[J6,KH l _ (Dw.length+0) (by simp)];have e1:(Dw++[(Oper.Te o').foldl (λm e=>m|||bit e|||Dw.getD e 0) 0]).getD (Dw.length+0) 0=(Oper.Te o').foldl (λm e=>m|||bit e|||Dw.getD e 0) 0:=by simp[List.getD]
  rw[e1,Pj];simp only[Nat.zero_testBit,C2,false_or];constructor;·rintro⟨e,he,h⟩;refine⟨e,he,h.imp id λh=>?_⟩;have hlt:e<Dw.length:=hd e he;rw[KH l _ e (by simp;omega)];simpa[List.getD,Ad hlt] using h
  .rintro⟨e,he,h⟩;refine⟨e,he,h.imp id λh=>?_⟩;have hlt:e<Dw.length:=hd e he;rw[KH l _ e (by simp;omega)] at h;simpa[List.getD,Ad hlt] using h
 |o'::l,Dw,k+1,o,h,hd,x=>by simp at h;rw[J6];have:=Pk l (Dw++[(Oper.Te o').foldl (λm e=>m|||bit e|||Dw.getD e 0) 0]) k o h (λe he=>by have:=hd e he;simp;omega) x;simp only[Ao,Bf,BU,BJ] at this;rw[show Dw.length+(k+1)=Dw.length+1+k by omega];exact this
theorem Xn{i:Nat}{o:Oper}(ho:ops[i]?=some o)(hd:∀e∈Oper.Te o,e<i)(x:Nat):DZ (Uo ops) x i=true↔∃e∈Oper.Te o,x=e\/DZ (Uo ops) x e=true:=by have:=Pk ops [] i o ho (by simpa using hd) x;simpa[DZ,Uo] using this
theorem NY(h:X3 ops=true){i:Nat}{o:Oper}(ho:ops[i]?=some o):∀e∈Oper.Te o,e<i:=by
 unfold X3 at h;rw[EL] at h;have:=h (o,i) (by refine CE (i:=i) ?_;simp[List.getElem?_zipIdx,ho])
 intro e he;simpa using EL.1 this e he
theorem Xo:∀{l:List (Nat×FP)},Ur.go an l=true->l.Pairwise λx y=>x.1≠y.1/\DZ an y.1 x.1=false/\(DZ an x.1 y.1=true\/PH x.2 y.2=true)
 |[],_=> .nil
 |(i,f)::l,h=>by simp only[Ur.go,BK,EL] at h;refine .cons (λy hy=>?_) (Xo h.2);have:=h.1 y hy;simp only[bne_iff_ne,Bool.not_eq_true',Bool.or_eq_true] at this;exact⟨this.1.1,this.1.2,this.2⟩
theorem wB{d:Option Nat}{σ:BG}{K:BG->IT}{h:Ag}{R:Js}(hr:IT.step (B5 C) run (kL d σ K) h=some R):∃σ',LA d σ σ'/\IT.step (B5 C) run (K σ') h=some R:=by
 unfold kL at hr;cases d with
 |none=>exact⟨σ,rfl,hr⟩
 |some d=>
  simp only at hr;cases hx:σ.at d with
  |val v=>
   rw[hx] at hr;simp only[IT.step] at hr;split at hr;·exact⟨σ.set d (.Nv true),by simp only[LA,hx];exact⟨true,rfl,rfl⟩,hr⟩
   .exact⟨σ.set d (.Nv false),by simp only[LA,hx];exact⟨false,rfl,rfl⟩,hr⟩
   .cases hr
  |_=>rw[hx] at hr;exact⟨σ,by simp only[LA,hx],hr⟩
theorem MW{i:Nat}{t:IT}{h:Ag}{R:Js}:∀{fl:List Jt},IT.step (B5 C) run (Qq an i fl t) h=some R->(∀f∈fl,DZ an f.idx i=false->A9 h f.n f.p=some f.v)/\IT.step (B5 C) run t h=some R
 |[],hr=>⟨by simp,hr⟩
 |f::fl,hr=>by
  unfold Qq at hr;by_cases hb:DZ an f.idx i=true
  .rw[if_pos hb] at hr;obtain⟨k1,k2⟩:=MW hr;refine⟨λg hg hgb=>?_,k2⟩;rcases AP.1 hg with rfl|hg
   .rw[hb] at hgb;cases hgb
   .exact k1 g hg hgb
  .rw[if_neg hb] at hr;simp only[IT.step] at hr;split at hr
   .rename_i v hv;split at hr
    .rename_i Jo;obtain⟨k1,k2⟩:=MW hr;refine⟨λg hg hgb=>?_,k2⟩;rcases AP.1 hg with rfl|hg
     .rw[Aa.UN Jo];exact hv
     .exact k1 g hg hgb
    .cases hr
   .cases hr
theorem PO{K:BG->IT}{R:Js}:∀{rest:List Nat} {ann:List (Nat×FP)} {fl:List Jt} {σ:BG} {h:Ag},IT.step (B5 C) run (PI C fid ops an rest ann fl σ K) h=some R->
  ∃L σf hf,Steps C fid ops run an fl L σ h σf hf/\Ur ops.length an (ann.reverse++L.map λs=>(s.idx,s.fp))=true/\IT.step (B5 C) run (K σf) hf=some R
 |[],ann,fl,σ,h,hr=>by
  unfold PI at hr;split at hr;·rename_i hok;exact⟨[],σ,h,.nil,by simpa using hok,hr⟩
  .cases hr
 |i::rest,ann,fl,σ,h,hr=>by
  unfold PI at hr;cases ho:ops[i]? with
  |none=>rw[ho] at hr;cases hr
  |some o=>
   rw[ho] at hr;simp only at hr;split at hr
   .rename_i hg;split at hr;·cases hr
    .rename_i r hc;obtain⟨σ1,h1,hd,hr⟩:=WY hr;have Fy:(r.Qj=true->∀f∈fl,DZ an f.idx i=false->A9 h1 f.n f.p=some f.v)/\IT.step (B5 C) run (kL (if Qr ops i then o.dst else none) σ1 λσ''=>PI C fid ops an rest ((i,Tf C ops σ o (some r))::ann) (Lv i r σ1 fl) σ'' K) h1=some R:=by
      split at hr;·obtain⟨k1,k2⟩:=MW hr;exact⟨λ_=>k1,k2⟩
      .rename_i he;exact⟨λe=>absurd e he,hr⟩
     obtain⟨Wg,hr⟩:=Fy;obtain⟨σ',ha,hr⟩:=wB hr;rw[UQ] at hr;obtain⟨L,σf,hf,k1,k2,k3⟩:=PO hr;exact⟨{idx:=i,fp:=Tf C ops σ o (some r),fl:=JY i r σ1}::L,σf,hf,.cons ⟨o,ho,.inr ⟨r,σ1,hg,hc,rfl,hd,rfl,ha⟩⟩ Wg k1,by simpa using k2,k3⟩
   .rename_i hg;obtain⟨L,σf,hf,k1,k2,k3⟩:=PO hr;exact⟨{idx:=i,fp:=Tf C ops σ o none,fl:=none}::L,σf,hf,.cons ⟨o,ho,.inl ⟨hg,rfl,rfl,rfl,rfl⟩⟩ (λe=>by simp[Tf] at e) k1,by simpa using k2,k3⟩
   .cases hr
end
section
variable{C:FJ}{γ0 γ:Gh}{w0 w:World}{β:Nat->Nat}{σ:BG}{h:Ag}{a:Act}{fid:FuncId}
theorem KI(hr:CT C γ0 w0 γ β σ h a w){ops:Array Oper}{o:Oper}{b:Bool}(hg:HX ops.toList σ o= .L6 b):Region.wanted o (yielded ops a.tmps)=b:=by
 unfold HX at hg;unfold Region.wanted;cases ho:o.guard with
 |none=>rw[ho] at hg;cases hg;rfl
 |some g=>
  obtain⟨j,want⟩:=g;rw[ho] at hg;simp only[Array.getElem?_toList] at hg⊢;unfold yielded;cases hd:(ops[j]?).bind (·.dst) with
  |none=>rw[hd] at hg;cases hg
  |some s=>
   rw[hd] at hg;simp only[Ct] at hg⊢;have h0:=hr.fr.Hz s;cases hx:σ.at s with
   |Nv c=>
    rw[hx] at hg h0;cases hg;have hl:s<a.tmps.size:=by rw[<-hr.fr.size];exact BG.NQ (by rw[hx];simp)
    have hv:a.tmps.getD s undef= .bool c:=h0;have:a.tmps[s]?=some (.bool c):=by rw[C3 hl];rw[Lr,C3 hl] at hv;exact Cf some hv
    rw[this];rfl
   |skip=>
    rw[hx] at hg h0;cases hg;have hv:a.tmps.getD s undef=undef:=h0;have hne:∀c,a.tmps[s]?≠some (.bool c):=λc hc=>by rw[Lr,hc] at hv;cases hv
    cases ht:a.tmps[s]? with
    |none=>rfl
    |some v=>
     cases v with
     |bool c=>exact absurd ht (hne c)
     |_=>rfl
   |val v=>rw[hx] at hg;cases hg
   |_=>rw[hx] at hg;cases hg
theorem CT.aDF(hr:CT C γ0 w0 γ β σ h a w){d:Option Nat}{σ':BG}(ha:LA d σ σ'):CT C γ0 w0 γ β σ' h a w:=by
 unfold LA at ha;cases d with
 |none=>simp only at ha;rw[ha];exact hr
 |some d=>
  simp only at ha;cases hx:σ.at d with
  |val v=>rw[hx] at ha;obtain⟨b,rfl,rfl⟩:=ha;have h0:=hr.fr.Hz d;rw[hx] at h0;exact hr.ZQ h0
  |_=>rw[hx] at ha;rw[ha];exact hr
structure aJr(ops:Array Oper)(listed:Array Bool)(L:List St):Prop where
 size:listed.size=ops.size
 un:∀i,i<ops.size->(listed.getD i false=false↔i∈L.map (·.idx))
 closed:∀j,listed.getD j false=true->∀e,DZ (Uo ops.toList) e j=true->listed.getD e false=true
abbrev kW(an:List Nat)(L:List St):Prop:=L.Pairwise λx y=>x.idx≠y.idx/\DZ an y.idx x.idx=false/\(DZ an x.idx y.idx=true\/PH x.fp y.fp=true)
theorem q7{run:IT->Ag->Option Js}(hS:EF C run){ops:Array Oper}{Q:Exit->Act->World->Prop}(FG:X3 ops.toList=true){σf:BG}{hf:Ag}(hQ:∀γ' β' a' w',CT C γ0 w0 γ' β' σf hf a' w'->Q .normal a' w'):
  ∀(fuel:Nat) (L:List St) (listed:Array Bool) (γ:Gh) (β:Nat->Nat) (σ:BG) (h:Ag) (a:Act) (w:World),L.length=fuel->Steps C fid ops.toList run (Uo ops.toList) [] L σ h σf hf->kW (Uo ops.toList) L->aJr ops listed L->CT C γ0 w0 γ β σ h a w->
   wpAny C.P .any ops Q fuel listed a w:=by
 intro fuel;induction fuel with
 |zero=>
  intro L listed γ β σ h a w hL hs hp ho hr;have hL0:L=[]:=EY hL;subst hL0;cases hs;refine⟨List.eq_nil_iff_forall_not_mem.2 λi hi=>?_,hQ _ _ _ _ hr⟩;obtain⟨h0,o,dj,_⟩:=mem_ready.1 hi;have hlt:i<ops.size:=(A4.1 dj).1;have Wz:listed.getD i false=false:=by
   have hl:i<listed.size:=by rw[ho.size];exact hlt
   simpa[Array.getD,hl] using h0
  have:=(ho.un i hlt).1 Wz;simp at this
 |succ fuel ih=>
  intro L listed γ β σ h a w hL hs hp ho hr;have Yd:∀i,i<ops.size->listed.getD i true=listed.getD i false:=λi hi=>by
   have hl:i<listed.size:=by rw[ho.size];exact hi
   simp[Array.getD,hl]
  constructor
  .intro Wg;exfalso;cases L with
   |nil=>simp at hL
   |cons s0 L=>
    obtain⟨o,dj,_⟩:∃o,ops.toList[s0.idx]?=some o/\True:=by
     cases hs with
     |cons h1 _ _=>obtain⟨o,h2,_⟩:=h1;exact⟨o,h2,trivial⟩
    have fJ:ops[s0.idx]?=some o:=by simpa using dj
    have hlt:s0.idx<ops.size:=(A4.1 fJ).1;have:s0.idx∈Region.ready .any ops listed:=by
     refine mem_ready.2 ⟨?_,o,fJ,λe he hb=>?_⟩;·rw[Yd _ hlt];exact(ho.un _ hlt).2 (by simp)
     .have hed:e.on∈Oper.Te o:=Cj.2 ⟨e,by simpa using he,by rw[if_pos hb]⟩;have hei:=NY FG dj e.on hed;cases hl:listed.getD e.on false with
      |true=>rfl
      |false=>
       have hm:=(ho.un e.on (by omega)).1 hl;simp only[Bm,AP] at hm;rcases hm with hm|hm
       .omega
       .obtain⟨y,hy,hye⟩:=Bl.1 hm;have:=((List.pairwise_cons.1 hp).1 y hy).2.1;rw[hye,(Xn dj (NY FG dj) e.on).2 ⟨e.on,hed,.inl rfl⟩] at this;cases this
    rw[Wg] at this;cases this
  .intro i hi;obtain⟨h0,o,dj,aDG⟩:=mem_ready.1 hi;have hlt:i<ops.size:=(A4.1 dj).1;rw[Yd i hlt] at h0;obtain⟨s,hsL,rfl⟩:=Bl.1 ((ho.un i hlt).1 h0);obtain⟨A,B,rfl⟩:=List.append_of_mem hsL;have fJ:ops.toList[s.idx]?=some o:=by simpa using dj
   have aDH:∀e,DZ (Uo ops.toList) e s.idx=true->listed.getD e false=true:=λe he=>by
    obtain⟨d,hd,Ij⟩:=(Xn fJ (NY FG fJ) e).1 he;obtain⟨ed,hed,hb⟩:=Cj.1 hd;split at hb
    .rename_i Pg;cases hb;have fH:=aDG ed (by simpa using hed) Pg;rcases Ij with rfl|Ij
     .exact fH
     .exact ho.closed _ fH e Ij
    .cases hb
   have hApair:=(List.pairwise_append.1 hp).2.2;have za:∀p∈A++s::B,p.idx<ops.size:=λp hp'=>by simpa using hs.lt p hp'
   obtain⟨σ1,h1,k1,_,k3⟩:=uh hs λp hpA=>by
    have hb:DZ (Uo ops.toList) p.idx s.idx=false:=by
     cases Pg:DZ (Uo ops.toList) p.idx s.idx with
     |false=>rfl
     |true=>have h1:=aDH _ Pg;have h2:=(ho.un p.idx (za p (by simp[hpA]))).2 (Bl.2 ⟨p,by simp[hpA],rfl⟩);rw[h1] at h2;cases h2
    refine⟨?_,hb⟩;have:=(hApair p hpA s (by simp)).2.2;rw[hb] at this;exact this.resolve_left (by simp)
   have ui:∀γ' β' a' w',CT C γ0 w0 γ' β' σ1 h1 a' w'->wpAny C.P .any ops Q fuel (listed.setIfInBounds s.idx true) a' w':=λγ' β' a' w' Fy=>by
    refine ih (A++B) _ γ' β' σ1 h1 a' w' (by simp at hL⊢;omega) (k3.sub (by simp)) ?_ ⟨by simp[ho.size],λj hj=>?_,λj hj e he=>?_⟩ Fy;·exact hp.sublist ((AX A).append (List.sublist_cons_self s B))
    .by_cases hjs:j=s.idx
     .subst hjs;have zb:s.idx∉(A++B).map (·.idx):=λhm=>by
       obtain⟨q,hq,he⟩:=Bl.1 hm;rcases Ap.1 hq with hq|hq
       .exact(hApair q hq s (by simp)).1 he
       .exact(List.pairwise_cons.1 (List.pairwise_append.1 hp).2.1).1 q hq |>.1 he.symm
      have ht:(listed.setIfInBounds s.idx true).getD s.idx false=true:=by
       have hl:s.idx<listed.size:=by rw[ho.size];exact hlt
       simp[Array.getD,hl]
      rw[ht];exact⟨λe=>absurd e (by simp),λe=>absurd e zb⟩
     .rw[getD_set_ne false (λe=>hjs e.symm),ho.un j hj];simp only[BE,Bm,Ap,AP];constructor
      .rintro(e|e|e);·exact .inl e
       .exact absurd e hjs
       .exact .inr e
      .rintro(e|e);·exact .inl e
       .exact .inr (.inr e)
    .by_cases hjs:j=s.idx;·subst hjs;exact getD_set_true (aDH e he)
     .rw[getD_set_ne false (λe=>hjs e.symm)] at hj;exact getD_set_true (ho.closed j hj e he)
   unfold wpOp;rw[dj];obtain⟨o',dg,⟨hg,_,_,rfl,rfl⟩|⟨r,σ2,hg,hc,_,hd,_,ha⟩⟩:=k1;·rw[fJ] at dg;cases dg;simp only[KI hr hg,C2,Ef];exact ui _ _ _ _ (hr.put λ_ _=>rfl)
   .rw[fJ] at dg;cases dg;simp only[KI hr hg,BO];exact .inl (vW hS hc hd hr λγ' β' a' w' Fy=>ui γ' β' a' w' (Fy.aDF ha))
end
end Go.Am
end
