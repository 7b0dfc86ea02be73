/- Lemmas -/
import Derived.Test.YtgmhlaiafgkmeaaGreatDoorN6
set_option linter.all false
section
namespace Go.Am
open Go
section
variable{C:CB}{γ0 γ γ':Gh}{w0 w w':World}{O:Nat->Nat}{U U':Av}{h h':Ab}{a:Act}{fid:FuncId}{ops:List Oper}
def Cx.wp{o:Oper}{K:Act->World->Prop}{Q:Exit->Act->World->Prop}(hs:Cx C γ0 w0 o a w U' h')(hK:∀γ' O' a' w',Bk C γ0 w0 γ' O' U' h' a' w'->K a' w'):o.wp C.P a w K Q:=by
 obtain⟨γ',O',w',⟨v,he,hr⟩|⟨he,hr⟩⟩:=hs;.exact D3 he (hK _ _ _ _ hr)
 .exact Px he (hK _ _ _ _ hr)
def Mx{P:Program}{op:BinOp}{t:TypeId}{p:Mm}(hp:H3 P op t=some p):p.still=true:=by
 have EI:∀neg u,JW P t neg u=some p->p.still=true:=by
  intro neg u h;unfold JW at h;split at h;.cases h;rfl
  .split at h
   .cases hf:Hr P 20 t with
    |none=>rw[hf] at h;cases h
    |some k=>rw[hf] at h;cases h;rfl
   .cases h
  .split at h<;>cases h;rfl
  .cases h;rfl
  .cases h;rfl
  .cases h;rfl
  .cases h
 unfold H3 at hp;split at hp;.cases hp;rfl
 .cases hp;rfl
 .split at hp;.exact EI _ _ hp
  .exact EI _ _ hp
  .cases hp
 .cases hp
def Gy{P:Program}{t:TypeId}{f off:Nat}{sh:Option Nat}(hf:DK P t f=some (off,sh))(b o:Nat):(Instr.fieldAt t (.pointer (some ⟨b,o,none⟩)) f).run P w= .ok (.pointer (some ⟨b,o+off,none⟩)) w:=by
 unfold DK at hf;split at hf
 .rename_i fs TB;split at hf
  .rename_i fd Vo;split at hf;.rename_i n wC h1 h2;cases hf;simp[Instr.fieldAt,run_underlying TB,Vo,Instr.sureAddr,fieldPlace,BC h1,Addr.add_lit]
   .cases hf
  .cases hf
 .cases hf
def LW(hr:Bk C γ0 w0 γ O U h a w){s ver:Nat}{cs:List Aa}{ow:List Nat}(hs:BK C U (.tmp s)=some (.box ver cs ow)):a.eval (.tmp s)= .pointer (some ⟨O s,0,none⟩):=by have h0:=Jm hr s;rw[C4 hs] at h0;exact h0.1
def KD(hr:Bk C γ0 w0 γ O U h a w){x:Operand}{s k:Nat}(hs:BK C U x=some (.Cc s k)):a.eval x= .pointer (some ⟨O s,k,none⟩):=by obtain⟨t,h1,_⟩:=CJ hr hs;exact h1
def MY{o:Oper}{t:TypeId}{v:Aa}{d:Nat}{r:BV}{run:IT->Ab->Option Ep}(hb:Kv C fid t v d=some r)(CA:r.Gu C run (U.drop r.news) h U' h')
  (Hq:∀n,C.kind fid d= .Hq->v.cells.length=n->n≠0->Cx C γ0 w0 o a w ((U.drop [d]).set d (.box 0 v.cells [])) h)
  (heap:v.cells.length≠0->Cx C γ0 w0 o a w (U.put (some d) (.val (.ptr (some (h.length,0))))) (h++[.cells v.cells])):Cx C γ0 w0 o a w U' h':=by
 unfold Kv at hb;split at hb;.cases hb
 .rename_i n hn;split at hb;.cases hb
  .rename_i zX;split at hb;.cases hb;obtain⟨h1,rfl,rfl⟩:=CA;rename_i hk;exact Hq n hk h1 zX
   .cases hb;obtain⟨h1,rfl,rfl⟩:=CA;exact heap (by omega)
def H7{d s k:Nat}{run:IT->Ab->Option Ep}(CA:(BV.pure [(d,.Cc s k)]).Gu C run (U.drop (BV.pure [(d,.Cc s k)]).news) h U' h'):U'=U.set d (.Cc s k)/\h'=h:=by obtain⟨rfl,rfl⟩:=CA;exact⟨rfl,rfl⟩
def T0{run:IT->Ab->Option Ep}(hS:Ca C run){o:Oper}{r:BV}{K:Act->World->Prop}{Q:Exit->Act->World->Prop}(hc:CG C fid ops U o=some r)(CA:r.Gu C run (U.drop r.news) h U' h')(hr:Bk C γ0 w0 γ O U h a w)
  (hK:∀γ' O' a' w',Bk C γ0 w0 γ' O' U' h' a' w'->K a' w'):o.wp C.P a w K Q:=by
 by_cases Ex:∃p args dst A5 dem,r= .op p args dst A5 dem/\p.still=true
 .obtain⟨p,args,dst,A5,dem,rfl,VP⟩:=Ex
  obtain⟨hS',rfl,rfl,rfl⟩:=Sd hc VP hr
  obtain⟨v,hv,rfl,rfl⟩:=CA
  obtain⟨u,q1,q2⟩:=hS' v hv
  exact D3 q1 (hK _ _ _ _ (hr.put λ_ _=>q2))
 .have ZI:∀{p args dst},r= .op p args dst false none->p.still=false:=λ{p args dst} he=>by
   cases hp:p.still with
   |false=>rfl
   |true=>exact absurd ⟨p,args,dst,false,none,he,hp⟩ Ex
  have Dl:∀{p dst x},JX p dst x=some r->p.still=false:=λ{p dst x} he=>by
   obtain⟨args,_,e⟩:=BG he
   exact ZI e
  unfold CG at hc
  split at hc
  .rename_i x ho
   split at hc
   .rename_i d hd
    obtain⟨γ',DC⟩:=Jo hc CA hr
    exact D3 (w':=w) (v:=a.eval x) (by simp[execOp,ho]) (hK _ _ _ _ (by rw[hd];exact DC))
   .cases hc
  .rename_i x ho
   split at hc
   .rename_i d hd
    obtain⟨γ',DC⟩:=Jo hc CA hr
    exact D3 (w':=w) (v:=a.eval x) (by simp[execOp,ho]) (hK _ _ _ _ (by rw[hd];exact DC))
   .cases hc
  .rename_i c x y ho
   split at hc
   .rename_i d hcs hd
    obtain⟨γ',DC⟩:=Jo hc CA hr
    obtain⟨s,h1,_⟩:=CJ hr hcs
    have h1:a.eval c= .bool true:=h1
    exact D3 (w':=w) (v:=a.eval x) (by simp[execOp,ho,h1,asBool]) (hK _ _ _ _ (by rw[hd];exact DC))
   .rename_i d hcs hd
    obtain⟨γ',DC⟩:=Jo hc CA hr
    obtain⟨s,h1,_⟩:=CJ hr hcs
    have h1:a.eval c= .bool false:=h1
    exact D3 (w':=w) (v:=a.eval y) (by simp[execOp,ho,h1,asBool]) (hK _ _ _ _ (by rw[hd];exact DC))
   .cases Dl hc
  .rename_i t ho
   split at hc
   .rename_i d z hd hz
    split at hc
    .split at hc
     .rename_i Du
      cases hc
      obtain⟨rfl,rfl⟩:=CA
      exact(LD ho hd hz Du.2 hr).wp hK
     .cases hc
    .rename_i hk
     refine(MY (o:=o) (a:=a) (w:=w) (γ0:=γ0) (w0:=w0) hc CA (λn h0 h1 h2=>absurd h0 (by simpa using hk)) λh1=>LF ho hd hz h1 hr).wp hK
   .cases hc
  .rename_i t x ho
   split at hc
   .rename_i d v hd hv
    exact(MY (o:=o) (a:=a) (w:=w) (γ0:=γ0) (w0:=w0) hc CA (λn _ h1 h2=>Nx ho hd hv h1 h2 hr) λh1=>Ny ho hd hv h1 hr).wp hK
   .cases hc
  .split at hc
   .split at hc
    .cases Dl hc
    .cases hc
   .cases hc
  .rename_i t len parts ho
   split at hc
   .rename_i e ht
    split at hc
    .rename_i n hn
     split at hc
     .rename_i Du
      split at hc
      .rename_i hlen
       cases hc
       obtain⟨v,hv,rfl,rfl⟩:=CA
       cases hv
       exact(TI ho ht hn Du.1 Du.2 hlen.1 hr).wp hK
      cases ha:Ak C U (parts.toList.map (·.2)) with
      |none=>rw[ha] at hc;cases hc
      |some args=>
       rw[ha] at hc;cases hc
       obtain⟨v,hv,rfl,rfl⟩:=CA
       exact(TH ho ht hn Du.1 Du.2 ha hv hr).wp hK
     .cases hc
    .cases hc
   .cases hc
  .rename_i t x ho
   split at hc
   .rename_i d hd
    by_cases hp:∃ws,r= .pure ws
    .exact(Mv ho hd hc hp CA hr).wp hK
    .unfold Ff at hc
     split at hc
     .rename_i n p ht hx
      cases hc
      obtain⟨v,hv,rfl,rfl⟩:=CA
      have hs:=TE ho ht hx hv hr
      rw[hd] at hs
      exact hs.wp hK
     .split at hc
      .simp only at hc
       split at hc<;>(cases hc;exact absurd ⟨_,rfl⟩ hp)
      .cases hc
     .split at hc
      .cases hc;exact absurd ⟨_,rfl⟩ hp
      .cases hc
     .cases hc
   .cases hc
  .rename_i t x y ho
   split at hc
   .rename_i hd
    have fR:=hc
    unfold D9 at hc
    split at hc
    .rename_i n p v Fc hx hv
     cases hc
     obtain⟨sJ,rfl⟩:=CA
     exact(Se ho hd Fc hx hv sJ hr).wp hK
    .split at hc
     .cases hc
      exact(PL ho hd fR CA hr).wp hK
     .cases hc
    .cases hc
   .cases hc
  .rename_i x ho
   split at hc
   .rename_i s ver cs ow d hd hs
    cases hc
    obtain⟨rfl,rfl⟩:=H7 CA
    have he:=LW hr hs
    exact D3 (w':=w) (v:= .pointer (some ⟨O s,0,none⟩)) (by simp[execOp,ho,he]) (hK _ _ _ _ (by rw[hd];exact hr.put (d:=some d) λ_ _=>rfl))
   .rename_i s k d hd hs
    cases hc
    obtain⟨rfl,rfl⟩:=H7 CA
    have he:=KD hr hs
    exact D3 (w':=w) (v:= .pointer (some ⟨O s,k,none⟩)) (by simp[execOp,ho,he]) (hK _ _ _ _ (by rw[hd];exact hr.put (d:=some d) λ_ _=>rfl))
   .cases Dl hc
  .split at hc
   .rename_i p hp
    have VP:=Dl hc
    rw[Mx hp] at VP
    cases VP
   .cases hc
  .cases Dl hc
  .rename_i src rS x ho
   split at hc
   .rename_i hq
    unfold Lp at hq
    cases hv:B2 C U x with
    |none=>rw[hv] at hc;cases hc
    |some v=>
     rw[hv] at hc;cases hc
     split at hq
     .cases hq
     .cases hq
     .cases hq
     .rename_i e hs hd
      split at hq
      .rename_i he
       obtain⟨v',u,h1,h2,rfl⟩:=CA
       exact(VK ho hs hd he hv h1 h2 hr).wp hK
      .cases hq
     .split at hq<;>cases hq
     .cases hq
   .rename_i hq
    unfold Lp at hq
    split at hq
    .cases hq
    .cases hq
    .cases hq
    .split at hq<;>cases hq
    .rename_i e hs hd
     split at hq
     .rename_i he _ _
      split at hc
      .cases hv:B2 C U x with
       |none=>rw[hv] at hc;cases hc
       |some v=>
        rw[hv] at hc;cases hc
        obtain⟨u,h1,rfl⟩:=CA
        exact(NC ho hs hd he hv h1 hr).wp hK
      .obtain⟨args,ha,rfl⟩:=BG hc
       obtain⟨u,h1,rfl,rfl⟩:=CA
       obtain⟨v,rfl,_⟩:=CW hr ha
       exact(VJ ho hs hd he ha h1 hr).wp hK
     .cases hq
    .cases hq
   .rename_i p qO qP hq
    have VP:=Dl hc
    unfold Lp at hq
    split at hq
    .cases hq;cases VP
    .cases hq;cases VP
    .cases hq
    .split at hq
     .cases hq;exact absurd rfl qO
     .cases hq
    .split at hq
     .cases hq;exact absurd rfl qP
     .cases hq
    .cases hq
   .cases hc
  .rename_i fn first captured ho
   split at hc
   .rename_i d as bs fz hd ha hb
    cases hc
    obtain⟨rfl,rfl⟩:=CA
    exact(Ov ho hd ha hb hr).wp hK
   .cases hc
  .rename_i t ho
   cases hc
   obtain⟨rfl,rfl⟩:=CA
   exact(TP ho hr).wp hK
  .rename_i t l c ho
   split at hc
   .rename_i e ht
    split at hc
    .rename_i n b z vl vc hn hb hz hl Lc
     cases hc
     obtain⟨v,h1,rfl⟩:=CA
     exact(TM ho ht hn hb hz hl Lc h1 hr).wp hK
    .cases hc
   .cases hc
  .rename_i t m k x ho
   split at hc
   .rename_i kt e ht
    split at hc
    .rename_i vm vk vx hd hk ha
     cases hc
     obtain⟨h1,rfl⟩:=CA
     exact(Oz (.inl ho) hd ht hk ha h1 hr).wp hK
    .rename_i vm vk vx hd hk ha
     cases hc
     obtain⟨v,h1,rfl⟩:=CA
     exact(OF (.inl ho) hd ht hk ha h1 hr).wp hK
    .cases hc
   .cases hc
  .rename_i t m k x ho
   split at hc
   .rename_i kt e ht
    split at hc
    .rename_i vm vk vx hd hk ha
     cases hc
     obtain⟨h1,rfl⟩:=CA
     exact(Oz (.inr ho) hd ht hk ha h1 hr).wp hK
    .rename_i vm vk vx hd hk ha
     cases hc
     obtain⟨v,h1,rfl⟩:=CA
     exact(OF (.inr ho) hd ht hk ha h1 hr).wp hK
    .cases hc
   .cases hc
  .rename_i t m k ok ho
   split at hc
   .rename_i kt e ht
    split at hc
    .rename_i z vm vk hk hz ha
     cases hc
     obtain⟨v,h1,rfl,rfl⟩:=CA
     exact(TQ ho ht hk hz ha h1 hr).wp hK
    .rename_i z vm vk hk hz ha
     cases hc
     obtain⟨v,h1,rfl⟩:=CA
     exact(TZ ho ht hk hz ha h1 hr).wp hK
    .cases hc
   .cases hc
  .rename_i t x lo hi mx ho
   split at hc
   .rename_i e ht
    split at hc
    .rename_i n hn
     obtain⟨args,ha,rfl⟩:=De hc
     obtain⟨v,h1,rfl⟩:=CA
     simp only[Je] at h1
     split at h1
     .rename_i zY
      cases h1
      exact(TX ho ht hn ha zY hr).wp hK
     .cases h1
    .cases hc
   .cases hc
  .rename_i t x ho
   split at hc
   .cases hc
   .rename_i u hu ht
    obtain⟨args,ha,rfl⟩:=De hc
    obtain⟨v,h1,rfl⟩:=CA
    obtain⟨y,rfl,_⟩:=CW hr ha
    cases h1
    exact(TY ho ht (λi e=>hu i e) ha hr).wp hK
   .cases hc
  .rename_i t m k ho
   split at hc
   .rename_i kt e ht
    split at hc
    .rename_i z hk hz
     obtain⟨args,ha,rfl⟩:=De hc
     obtain⟨v,h1,rfl⟩:=CA
     obtain⟨y1,y2,rfl,_,_⟩:=B9 hr ha
     exact(PS ho ht hk hz ha h1 hr).wp hK
    .rename_i z hk hz
     obtain⟨args,ha,rfl⟩:=De hc
     obtain⟨v,h1,rfl⟩:=CA
     obtain⟨y1,y2,rfl,_,_⟩:=B9 hr ha
     exact(PT ho ht hk hz ha h1 hr).wp hK
    .cases hc
   .cases hc
  .rename_i t m s x ho
   split at hc
   .rename_i hd
    obtain⟨args,ha,rfl⟩:=De hc
    obtain⟨v,h1,rfl⟩:=CA
    obtain⟨y1,y2,y3,rfl⟩:∃y1 y2 y3,args=[y1,y2,y3]:=by
     have:=BF hr ha
     cases args with
     |nil=>cases h1
     |cons y1 l1=>cases l1 with
      |nil=>cases h1
      |cons y2 l2=>cases l2 with
       |nil=>cases h1
       |cons y3 l3=>cases l3 with
        |nil=>exact⟨_,_,_,rfl⟩
        |cons _ _=>cases h1
    exact(PU ho hd ha h1 hr).wp hK
   .cases hc
  .rename_i t x lo hi ho
   split at hc
   .cases Dl hc
   .rename_i e ht
    split at hc
    .rename_i n hn
     split at hc
     .obtain⟨args,ha,rfl⟩:=De hc
      obtain⟨v,h1,rfl⟩:=CA
      cases args with
      |nil=>cases h1
      |cons y l=>exact(TV ho ht hn ha h1 hr).wp hK
     .cases Dl hc
    .cases hc
   .cases hc
  .rename_i t x f ho
   split at hc
   .rename_i off sh d hf hd
    split at hc
    .rename_i s ver cs ow hs
     cases hc
     obtain⟨rfl,rfl⟩:=H7 CA
     have he:=LW hr hs
     exact D3 (w':=w) (v:= .pointer (some ⟨O s,off,none⟩)) (by simp only[execOp,ho,he];exact B1 (by rw[Gy hf];simp)) (hK _ _ _ _ (by rw[hd];exact hr.put (d:=some d) λ_ _=>rfl))
    .rename_i s k hs
     cases hc
     obtain⟨rfl,rfl⟩:=H7 CA
     have he:=KD hr hs
     exact D3 (w':=w) (v:= .pointer (some ⟨O s,k+off,none⟩)) (by simp only[execOp,ho,he];exact B1 (Gy hf _ _)) (hK _ _ _ _ (by rw[hd];exact hr.put (d:=some d) λ_ _=>rfl))
    .cases Dl hc
   .cases hc
  .split at hc
   .cases Dl hc
   .cases hc
  .split at hc
   .split at hc
    .cases Dl hc
    .cases hc
   .split at hc
    .split at hc
     .cases hc
     .cases Dl hc
    .cases hc
   .cases hc
  .split at hc
   .cases Dl hc
   .split at hc
    .cases Dl hc
    .cases hc
   .cases hc
  .cases Dl hc
  .rename_i c ho
   unfold IC at hc
   split at hc
   .split at hc
    .split at hc
     .cases Dl hc
     .cases Dl hc
     .cases hc
    .cases hc
   .rename_i hcl
    split at hc
    .rename_i t t' s x h0 h1 B0
     split at hc
     all_goals first
      |(cases hc;done)
      | (rename_i e _ ht Ek
         split at hc
         . rename_i n b hn hb
           split at hc
           . rename_i N7
             split at hc
             . rename_i v u ha
               split at hc
               . rename_i Ct
                 split at hc
                 . cases hc
                   obtain ⟨r', h3, rfl⟩ := CA
                   exact (Sm ho hcl h0 h1 B0 ht (by first | exact .inl ⟨_, Ek⟩ | exact .inr Ek) hn hb Ct N7 ha h3 hr).wp hK
                 . split at hc
                   . cases hc
                     obtain ⟨r', h3, rfl, rfl⟩ := CA
                     exact (Ox ho hcl h0 h1 B0 ht (by first | exact .inl ⟨_, Ek⟩ | exact .inr Ek) hn hb Ct N7 ha h3 hr).wp hK
                   . cases hc
                     obtain ⟨r', h3, rfl, rfl⟩ := CA
                     exact (PO ho hcl h0 h1 B0 ht (by first | exact .inl ⟨_, Ek⟩ | exact .inr Ek) hn hb Ct N7 ha h3 hr).wp hK
               . split at hc
                 . cases hc
                   obtain ⟨r', h3, rfl⟩ := CA
                   exact (TT ho hcl h0 h1 B0 ht (by first | exact .inl ⟨_, Ek⟩ | exact .inr Ek) hn hb N7 ha h3 hr).wp hK
                 . cases hc
             . cases hc
           . cases hc
         . cases hc)
    .cases hc
   .rename_i hcl
    split at hc
    .rename_i t t' s x h0 h1 B0
     split at hc
     all_goals first
      |(cases hc;done)
      | (rename_i e _ ht Ek
         split at hc
         . rename_i n hn
           obtain ⟨args, ha, rfl⟩ := De hc
           obtain ⟨v, h3, rfl⟩ := CA
           obtain ⟨y1, y2, rfl, _, _⟩ := B9 hr ha
           exact (TU ho hcl h0 h1 B0 ht (by first | exact .inl ⟨_, Ek⟩ | exact .inr Ek) hn ha h3 hr).wp hK
         . cases hc)
    .cases hc
   .rename_i hcl
    split at hc
    .rename_i t s h0 B0
     split at hc
     .rename_i e ht
      split at hc
      .rename_i n z hn hz
       obtain⟨args,ha,rfl⟩:=De hc
       obtain⟨v,h3,rfl⟩:=CA
       obtain⟨y1,rfl,_⟩:=CW hr ha
       exact(So ho hcl h0 B0 ht hn hz ha h3 hr).wp hK
      .cases hc
     .cases hc
    .cases hc
   .split at hc
    .cases Dl hc
    .cases hc
   .split at hc
    .cases Dl hc
    .cases hc
   .rename_i f hcl
    split at hc
    .rename_i hf
     split at hc
     .rename_i s i x B0
      split at hc
      .rename_i Ct
       obtain⟨args,ha,rfl⟩:=De hc
       obtain⟨v,h3,rfl⟩:=CA
       exact VL hS ho hcl hf B0 Ct ha h3 hr λγ' v w' DC=>hK _ _ _ _ DC
      .cases hc
     .cases hc
    split at hc
    rotate_left
    .cases hc
    rename_i KB
    rw[<-KB] at hcl
    cases ha:Ak C U c.args.toList with
    |none=>rw[ha] at hc;cases hc
    |some args=>
     rw[ha] at hc
     simp only[A3,AG] at hc
     split at hc
     .cases hc
      obtain⟨FX,rv,h1,h2,h3,rfl,rfl⟩:=CA
      exact Si hS ho hcl ha FX h2 h3 hr λγ' v w' DC=>hK _ _ _ _ DC
     .cases hc
      obtain⟨rv,h1,rfl⟩:=CA
      exact TO hS ho hcl ha h1 hr λγ' v w' DC=>hK _ _ _ _ DC
   .rename_i g hn hcl
    split at hc
    .rename_i gv args hg ha
     cases hc
     obtain⟨f,args',rv,h0,h1,rfl⟩:=CA
     exact Sj hS ho hcl hg ha h0 h1 hr λγ' v w' DC=>hK _ _ _ _ DC
    .cases hc
   .cases hc
  .cases hc
end
end Go.Am
end
section
namespace Go.Am
open Go
section
variable{C:CB}{U Z:Av}{fid:FuncId}{ops:List Oper}
def NG{x:Operand}(h:∀t,x= .tmp t->Z.at t=U.at t):BK C Z x=BK C U x:=by
 cases x with
 |tmp t=>simp only[BK,h t rfl]
 |const v=>
  cases v with
  |slice a b c=>cases a<;>cases b<;>cases c<;>rfl
  |_=>rfl
 |global g=>rfl
 |func f=>rfl
def Ld(C:CB)(U Z:Av)(xs:List Operand):Prop:=∀x∈xs,BK C Z x=BK C U x
def Ld.Q1{xs:List Operand}(h:∀t∈EP xs,Z.at t=U.at t):Ld C U Z xs:=λx hx=>NG λt ht=>h t (by subst ht;exact B6.2 ⟨_,hx,rfl⟩)
def Ld.val{xs:List Operand}(h:Ld C U Z xs){x:Operand}(hx:x∈xs):B2 C Z x=B2 C U x:=by unfold B2;rw[h x hx]
def Ld.ES{xs:List Operand}(h:Ld C U Z xs):∀{ys:List Operand},(∀y∈ys,y∈xs)->Ak C Z ys=Ak C U ys
 |[],_=>rfl
 |y::ys,hy=>by unfold Ak;rw[h.val (hy y (by simp)),h.ES λz hz=>hy z (by simp[hz])]
def Ld.move{xs:List Operand}(h:Ld C U Z xs){x:Operand}(hx:x∈xs)(d:Nat)(take:Bool):EO C Z x d take=EO C U x d take:=by unfold EO;rw[h x hx]
def Ld.A5{xs:List Operand}(h:Ld C U Z xs){x:Operand}(hx:x∈xs):E5 C Z x=E5 C U x:=by unfold E5;rw[h x hx]
def Ld.BA{xs:List Operand}(h:Ld C U Z xs){x:Operand}(hx:x∈xs):Bp Z x=Bp U x:=by
 cases x with
 |tmp t=>have:=h _ hx;simp only[BK,AG] at this;simp only[Bp,this]
 |_=>rfl
def Ld.Db{xs:List Operand}(h:Ld C U Z xs):∀{ys:List Operand},(∀y∈ys,y∈xs)->Am.Db C Z ys=Am.Db C U ys
 |[],_=>rfl
 |y::ys,hy=>by unfold Am.Db;rw[h y (hy y (by simp)),h.Db λz hz=>hy z (by simp[hz])]
def Ld.addr{xs:List Operand}(h:Ld C U Z xs){x:Operand}(hx:x∈xs)(hb:∀s∈(GQ C U x).toList,Z.at s=U.at s)(hn:CF C U x≠none):CF C Z x=CF C U x:=by
 have PC:=h x hx;cases hs:BK C U x with
 |none=>unfold CF at hn;rw[hs] at hn;exact absurd (by split<;>simp_all) hn
 |some sl=>
  rw[hs] at PC;cases sl with
  |Cc s o=>
   have h1:∀J:Av,BK C J x=some (.Cc s o)->CF C J x=match J.at s with| .box ver cs ow=>some (.Hq s o ver cs ow)|_=>none:=λJ hρ=>by unfold CF;rw[hρ];cases x<;>rfl
   rw[h1 U hs] at hn⊢;rw[h1 Z PC];have h2:s∈(GQ C U x).toList:=by
    unfold GQ;rw[h1 U hs];cases J3:U.at s with
    |box ver cs ow=>simp
    |_=>rw[J3] at hn;exact absurd rfl hn
   rw[hb s h2]
  |_=>unfold CF;rw[hs,PC];cases x<;>rfl
def Ld.load{xs:List Operand}(h:Ld C U Z xs){x:Operand}(hx:x∈xs)(hb:∀s∈(GQ C U x).toList,Z.at s=U.at s){t:TypeId}{d:Nat}{take:Bool}{r:BV}(hc:Ff C U t x d take=some r):Ff C Z t x d take=some r:=by
 have hn:CF C U x≠none:=λhe=>by unfold Ff at hc;rw[he] at hc;split at hc<;>simp_all
 unfold Ff at hc⊢;rw[h.addr hx hb hn];exact hc
def Ld.store{xs:List Operand}(h:Ld C U Z xs){x y:Operand}(hx:x∈xs)(hy:y∈xs)(hb:∀s∈(GQ C U x).toList,Z.at s=U.at s){t:TypeId}{r:BV}(hc:D9 C U t x y=some r):D9 C Z t x y=some r:=by
 have hn:CF C U x≠none:=λhe=>by unfold D9 at hc;rw[he] at hc;split at hc<;>simp_all
 unfold D9 at hc⊢;rw[h.addr hx hb hn,h.val hy,h.A5 hy,h.BA hy];exact hc
def Ld.call{c:Call}(h:Ld C U Z c.operands.toList)(dst:Option Nat):IC C fid Z c dst=IC C fid U c dst:=by
 have ha:∀y∈c.args.toList,y∈c.operands.toList:=λy hy=>by unfold Call.operands;rw[C0];exact Aw _ hy
 have hv:Ak C Z c.args.toList=Ak C U c.args.toList:=h.ES ha;unfold IC;split;.rw[hv]
 .split
  .rename_i B0;have h1:∀{s x:Operand},c.args.toList=[s,x]->E5 C Z s=E5 C U s/\Bp Z s=Bp U s/\Ak C Z [s,x]=Ak C U [s,x]:=λ{s x} he=>by rw[he] at ha;exact⟨h.A5 (ha s (by simp)),h.BA (ha s (by simp)),h.ES λy hy=>ha y hy⟩
   obtain⟨e1,e2,e3⟩:=h1 B0;rw[e1,e2,e3]
  .rfl
 .split;.rename_i B0;rw[B0] at ha;rw[h.ES λy hy=>ha y hy]
  .rfl
 .split;.rename_i B0;rw[B0] at ha;rw[h.ES λy hy=>ha y hy]
  .rfl
 .rw[hv]
 .rw[hv]
 .split
  .split;.rename_i s i v B0;rw[B0] at ha;rw[h.A5 (ha v (by simp)),h.ES λy hy=>ha y hy]
   .rfl
  .rw[hv]
 .rename_i g _ hcl;have hg:g∈c.operands.toList:=by unfold Call.operands;rw[hcl];simp
  rw[hv,h.val hg]
 .rfl
def LX{o:Oper}{r:BV}(hc:CG C fid ops U o=some r)(ht:∀t∈EP o.op.operands.toList,Z.at t=U.at t)(hb:∀s∈Dw C U o,Z.at s=U.at s):CG C fid ops Z o=some r:=by
 have h:Ld C U Z o.op.operands.toList:= .Q1 ht
 unfold CG at hc⊢
 cases ho:o.op with
 |move x=>
  rw[ho] at h
  simp only[ho] at hc⊢
  have:=λd=>h.move (x:=x) (by simp[Op.operands]) d
  simpa only[this] using hc
 |assign x=>
  rw[ho] at h
  simp only[ho] at hc⊢
  have:=λd=>h.move (x:=x) (by simp[Op.operands]) d
  simpa only[this] using hc
 |pick c a b=>
  rw[ho] at h
  simp only[ho] at hc⊢
  have h1:=λd=>h.move (x:=a) (by simp[Op.operands]) d
  have h2:=λd=>h.move (x:=b) (by simp[Op.operands]) d
  rw[h c (by simp[Op.operands]),h.ES (ys:=[c,a,b]) (by simp[Op.operands])]
  simpa only[h1,h2] using hc
 |alloc t=>rw[ho] at hc;exact hc
 |box t x=>
  rw[ho] at h
  simp only[ho] at hc⊢
  rw[h.val (x:=x) (by simp[Op.operands])]
  exact hc
 |build t parts=>
  rw[ho] at h
  simp only[ho] at hc⊢
  rw[h.ES (ys:=parts.toList.map (·.2)) (by simp[Op.operands])]
  exact hc
 |buildSlice t len parts=>
  rw[ho] at h
  simp only[ho] at hc⊢
  rw[h.ES (ys:=parts.toList.map (·.2)) (by simp[Op.operands])]
  exact hc
 |load t x=>
  rw[ho] at h
  simp only[ho] at hc⊢
  split at hc
  .exact h.load (by simp[Op.operands]) (λs hs=>hb s (by simpa only[Dw,ho] using hs)) hc
  .cases hc
 |store t x y=>
  rw[ho] at h
  simp only[ho] at hc⊢
  split at hc
  .exact h.store (by simp[Op.operands]) (by simp[Op.operands]) (λs hs=>hb s (by simpa only[Dw,ho] using hs)) hc
  .cases hc
 |nilCheck x=>
  rw[ho] at h
  simp only[ho] at hc⊢
  have e2:=h.ES (ys:=[x]) (by simp[Op.operands])
  rw[h x (by simp[Op.operands])]
  cases hs:BK C U x with
  |none=>rw[hs] at hc;cases x<;>cases hd:o.dst<;>rw[hd] at hc<;>first|exact hc|(show JX _ _ (Ak C Z [_])=some r;rw[e2];exact hc)
  |some sl=>rw[hs] at hc;cases sl<;>cases x<;>cases hd:o.dst<;>rw[hd] at hc<;>first|exact hc|(show JX _ _ (Ak C Z [_])=some r;rw[e2];exact hc)
 |binOp op t x y k=>
  rw[ho] at h
  simp only[ho] at hc⊢
  rw[h.ES (ys:=[x,y]) (by simp[Op.operands])]
  exact hc
 |unOp op t x=>
  rw[ho] at h
  simp only[ho] at hc⊢
  rw[h.ES (ys:=[x]) (by simp[Op.operands])]
  exact hc
 |convert src dst x=>
  rw[ho] at h
  simp only[ho] at hc⊢
  rw[h.ES (ys:=[x]) (by simp[Op.operands]),h.val (x:=x) (by simp[Op.operands])]
  exact hc
 |makeFunc fn first captured=>
  rw[ho] at h
  simp only[ho] at hc⊢
  rw[h.ES (ys:=first.toList) (λ_ hm=>by simp[Op.operands,hm]),h.Db (ys:=captured.toList) (λ_ hm=>by simp[Op.operands,hm])]
  exact hc
 |makeMap t r'=>
  rw[ho] at hc
  cases r' with
  |none=>exact hc
  |some _=>cases hc
 |makeSlice t l c=>
  rw[ho] at h
  simp only[ho] at hc⊢
  rw[h.val (x:=l) (by simp[Op.operands]),h.val (x:=c) (by simp[Op.operands])]
  exact hc
 |insert t m k v=>
  rw[ho] at h
  simp only[ho] at hc⊢
  rw[h.ES (ys:=[m,k,v]) (by simp[Op.operands])]
  exact hc
 |mapUpdate t m k v=>
  rw[ho] at h
  simp only[ho] at hc⊢
  rw[h.ES (ys:=[m,k,v]) (by simp[Op.operands])]
  exact hc
 |lookup t m k ok=>
  rw[ho] at h
  simp only[ho] at hc⊢
  rw[h.ES (ys:=[m,k]) (by simp[Op.operands])]
  exact hc
 |slice t x lo hi mx=>
  rw[ho] at h hc
  cases mx with
  |none=>
   have e2:=h.ES (ys:=x::(lo.toList++hi.toList)) (by cases lo<;>cases hi<;>simp[Op.operands])
   simp only at hc⊢
   rw[e2]
   exact hc
  |some mx=>cases lo with
   |none=>cases hc
   |some lo=>cases hi with
    |none=>cases hc
    |some hi=>
     have e2:=h.ES (ys:=[x,lo,hi,mx]) (by simp[Op.operands])
     simp only at hc⊢
     rw[e2]
     exact hc
 |makeInterface t x=>
  rw[ho] at h
  simp only[ho] at hc⊢
  rw[h.ES (ys:=[x]) (by simp[Op.operands])]
  exact hc
 |mapEntry t m k=>
  rw[ho] at h
  simp only[ho] at hc⊢
  rw[h.ES (ys:=[m,k]) (by simp[Op.operands])]
  exact hc
 |entryStore t m s v=>
  rw[ho] at h
  simp only[ho] at hc⊢
  rw[h.ES (ys:=[m,s,v]) (by simp[Op.operands])]
  exact hc
 |fieldAddr t x f=>
  rw[ho] at h
  simp only[ho] at hc⊢
  have e2:=h.ES (ys:=[x]) (by simp[Op.operands])
  rw[h x (by simp[Op.operands])]
  cases hf:DK C.P t f with
  |none=>rw[hf] at hc;cases hc
  |some q=>
   rw[hf] at hc
   cases hd:o.dst with
   |none=>rw[hd] at hc;cases hc
   |some d=>
    rw[hd] at hc
    cases hs:BK C U x with
    |none=>rw[hs] at hc;cases x<;>first|exact hc|(show JX _ _ (Ak C Z [_])=some r;rw[e2];exact hc)
    |some sl=>rw[hs] at hc;cases sl<;>cases x<;>first|exact hc|(show JX _ _ (Ak C Z [_])=some r;rw[e2];exact hc)
 |field t x f=>
  rw[ho] at h
  simp only[ho] at hc⊢
  rw[h.ES (ys:=[x]) (by simp[Op.operands])]
  exact hc
 |indexAddr t x i=>
  rw[ho] at h
  simp only[ho] at hc⊢
  rw[h.ES (ys:=[x,i]) (by simp[Op.operands])]
  exact hc
 |index t x i=>
  rw[ho] at h
  simp only[ho] at hc⊢
  rw[h.ES (ys:=[x,i]) (by simp[Op.operands])]
  exact hc
 |extract x i=>
  rw[ho] at h
  simp only[ho] at hc⊢
  rw[h.ES (ys:=[x]) (by simp[Op.operands])]
  exact hc
 |call c=>
  rw[ho] at h
  simp only[ho] at hc⊢
  rw[h.call]
  exact hc
 |_=>simp only[ho] at hc;cases hc
end
end Go.Am
end
section
namespace Go.Am
open Go
mutual
def Aa.beq_eq:∀{a b:Aa},Aa.beq a b=true->a=b
 | .bool a,b,h=>by cases b<;>simp[Aa.beq] at h⊢;exact h
 | .int k a,b,h=>by cases b<;>simp[Aa.beq] at h⊢;exact h
 | .str a,b,h=>by cases b<;>simp[Aa.beq] at h⊢;exact h
 | .ptr a,b,h=>by cases b<;>simp[Aa.beq] at h⊢;exact h
 | .DU a,b,h=>by cases b<;>simp[Aa.beq] at h⊢;exact h
 | .A9 a,b,h=>by cases b<;>simp[Aa.beq] at h⊢;exact Aa.G4 h
 | .sl n a,b,h=>by cases b<;>simp[Aa.beq] at h⊢;exact⟨h.1,Aa.OG h.2⟩
 | .slnil,b,h=>by cases b<;>simp[Aa.beq] at h⊢
 | .EG a c d e,b,h=>by cases b<;>simp[Aa.beq] at h⊢;exact⟨h.1.1.1,h.1.1.2,h.1.2,h.2⟩
 | .map a,b,h=>by cases b<;>simp[Aa.beq] at h⊢;exact h
 | .func f a c,b,h=>by cases b<;>simp[Aa.beq] at h⊢;exact⟨h.1.1,Aa.G4 h.1.2,Aa.G4 h.2⟩
 | .nilFunc,b,h=>by cases b<;>simp[Aa.beq] at h⊢
 | .iface t a,b,h=>by cases b<;>simp[Aa.beq] at h⊢;exact⟨h.1,Aa.beq_eq h.2⟩
 | .nilIface,b,h=>by cases b<;>simp[Aa.beq] at h⊢
 | .agg a,b,h=>by cases b<;>simp[Aa.beq] at h⊢;exact Aa.G4 h
 | .tuple a,b,h=>by cases b<;>simp[Aa.beq] at h⊢;exact Aa.G4 h
def Aa.G4:∀{a b:List Aa},Aa.Lg a b=true->a=b
 |[],b,h=>by cases b<;>simp[Aa.Lg] at h⊢
 |a::x,b,h=>by
  cases b with
  |nil=>simp[Aa.Lg] at h
  |cons c y=>simp[Aa.Lg] at h⊢;exact⟨Aa.beq_eq h.1,Aa.G4 h.2⟩
def Aa.OG:∀{a b:List (List Aa)},Aa.MF a b=true->a=b
 |[],b,h=>by cases b<;>simp[Aa.MF] at h⊢
 |a::x,b,h=>by
  cases b with
  |nil=>simp[Aa.MF] at h
  |cons c y=>simp[Aa.MF] at h⊢;exact⟨Aa.G4 h.1,Aa.OG h.2⟩
end
def Av.Em(U:Av):∀(a b:List (Nat×BQ)),U.BW (a++b)=(U.BW a).BW b
 |[],_=>rfl
 |(s,x)::a,b=>Av.Em (U.set s x) a b
def Av.En:∀(ws:List (Nat×BQ)) (U:Av),(U.BW ws).length=U.length
 |[],_=>rfl
 |(s,x)::ws,U=>by rw[Av.BW,Av.En ws];simp
def Av.LY(U:Av)(s t:Nat)(x:BQ):Av.at (U.set s x) t=if s=t/\t<U.length then x else U.at t:=by
 by_cases h:s=t
 .subst h;by_cases hl:s<U.length;.simp[Av.at,List.getD,hl]
  .simp[Av.at,List.getD,hl]
 .simp[Av.at,List.getD,AB h,h]
def Av.CX:∀(ws:List (Nat×BQ)) (U:Av) (t:Nat),(∀p∈ws,p.1≠t)->(U.BW ws).at t=U.at t
 |[],_,_,_=>rfl
 |(s,x)::ws,U,t,h=>by rw[Av.BW,Av.CX ws _ t λp hp=>h p (by simp[hp]),Av.LY,if_neg];exact λe=>h (s,x) (by simp) e.1
def Av.LZ:∀(ws:List (Nat×BQ)) (U:Av) (t:Nat),(U.BW ws).at t=U.at t\/∃p∈ws,p.1=t/\(U.BW ws).at t=p.2
 |[],_,_=> .inl rfl
 |(s,x)::ws,U,t=>by
  rcases Av.LZ ws (U.set s x) t with h|⟨p,hp,h1,h2⟩
  .rw[Av.LY] at h;by_cases hc:s=t/\t<U.length;.rw[if_pos hc] at h;exact .inr ⟨(s,x),by simp,hc.1,h⟩
   .rw[if_neg hc] at h;exact .inl h
  .exact .inr ⟨p,by simp[hp],h1,h2⟩
def Av.D4:∀(ws:List (Nat×BQ)) (U Z:Av) (t:Nat),Z.length=U.length->Z.at t=U.at t->(Z.BW ws).at t=(U.BW ws).at t
 |[],_,_,_,_,h=>h
 |(s,x)::ws,U,Z,t,hl,h=>by refine Av.D4 ws _ _ t (by simpa using hl) ?_;rw[Av.LY,Av.LY,hl,h]
def Av.ext{U Z:Av}(hl:Z.length=U.length)(h:∀t,Z.at t=U.at t):Z=U:=by apply List.ext_getElem hl;intro i h1 h2;have:=h i;simpa[Av.at,List.getD,h1,h2] using this
def Av.Sq{U:Av}{a b:List (Nat×BQ)}(h:∀p∈a,∀q∈b,p.1≠q.1):(U.BW a).BW b=(U.BW b).BW a:=by
 refine Av.ext (by simp[Av.En]) λt=>?_;by_cases ha:∀p∈a,p.1≠t;.rw[Av.CX a (U.BW b) t ha];exact Av.D4 b _ _ t (by simp[Av.En]) (Av.CX a U t ha)
 .have⟨p,hp,zZ⟩:∃p∈a,p.1=t:=Classical.byContradiction λhn=>ha λp hp e=>hn ⟨p,hp,e⟩;have hb:∀q∈b,q.1≠t:=λq hq e=>h p hp q hq (by rw[zZ,e]);rw[Av.CX b (U.BW a) t hb];exact(Av.D4 a _ _ t (by simp[Av.En]) (Av.CX b U t hb)).symm
def G5{U:Av}{ds:List Nat}:Gf U ds=true↔∀x t o,U.at x= .Cc t o->t∉ds:=by
 unfold Gf;rw[Cb];constructor
 .intro h x t o hx;by_cases hl:x<U.length;.have:=h (U.at x) (by simp[Av.at,List.getD,hl]);rw[hx] at this;simpa using this
  .simp[Av.at,List.getD,hl] at hx
 .intro h s hs;obtain⟨i,hi⟩:=AU hs;cases s with
  |Cc t o=>have:=h i t o (by simp[Av.at,List.getD,hi]);simpa using this
  |_=>rfl
def Sr{a b:List Nat}:Kw a b=true↔∃x,x∈a/\x∈b:=by simp[Kw]
structure St where
 idx:Nat
 fp:FP
 fl:Option EK
def E1(i:Nat)(r:BV)(U:Av):Option EK:=
 match r with
 | .load n p (some d)=>match U.at d with
  | .val v=>some {idx:=i,n,p,v}
  |_=>none
 |_=>none
def L0(i:Nat)(r:BV)(U:Av)(fl:List EK):F1 i r U fl=(E1 i r U).toList++fl:=by
 cases r with
 |load n p dst=>
  cases dst with
  |none=>rfl
  |some d=>simp only[F1,E1];cases U.at d<;>rfl
 |_=>rfl
def My{i:Nat}{r:BV}{U Z:Av}(h:∀d∈r.wf,Z.at d=U.at d):E1 i r Z=E1 i r U:=by
 cases r with
 |load n p dst=>
  cases dst with
  |none=>rfl
  |some d=>simp only[E1];rw[h d (by simp[BV.wf])]
 |_=>rfl
def F5(d:Option Nat)(U U':Av):Prop:=
 match d with
 |none=>U'=U
 |some d=>match U.at d with
  | .val v=>∃b,v= .bool b/\U'=U.set d (.Hm b)
  |_=>U'=U
section
variable{C:CB}{fid:FuncId}{ops:List Oper}{run:IT->Ab->Option Ep}{U Z U':Av}{h h':Ab}
def HE(C:CB)(fid:FuncId)(ops:List Oper)(run:IT->Ab->Option Ep)(s:St)(U:Av)(h:Ab)(U':Av)(h':Ab):Prop:=
 ∃o,ops[s.idx]?=some o/\
  ((DV ops U o = .Gr false /\ s.fp = KV C ops U o none /\ s.fl = none /\ U' = U.put o.dst .skip /\ h' = h) \/
   ∃ r U1, DV ops U o = .Gr true /\ CG C fid ops U o = some r /\ s.fp = KV C ops U o (some r) /\ r.Gu C run (U.drop r.news) h U1 h' /\ s.fl = E1 s.idx r U1 /\
     F5 (if Ji ops s.idx then o.dst else none) U1 U')
def L1(U:Av)(d:Option Nat)(x:BQ):U.put d x=U.BW (d.toList.map λs=>(s,x)):=by cases d<;>rfl
def Ss(U:Av)(d:Option (Nat×Aa)):U.BA d=U.BW (d.toList.map λp=>(p.1,.val p.2)):=by cases d<;>rfl
def MZ{r:BV}(hd:r.Gu C run U h U' h'):∃ws,U'=U.BW ws/\(∀p∈ws,p.1∈r.wf)/\(∀p∈ws,∀t o,p.2= .Cc t o->t∈r.QJ)/\∀Z,r.Gu C run Z h (Z.BW ws) h':=by
 have one:∀(d:Option Nat) (x:BQ),(∀t o,x≠ .Cc t o)->U'=U.put d x->d.toList⊆r.wf->(∀Z,r.Gu C run Z h (Z.put d x) h')->
   ∃ws,U'=U.BW ws/\(∀p∈ws,p.1∈r.wf)/\(∀p∈ws,∀t o,p.2= .Cc t o->t∈r.QJ)/\∀Z,r.Gu C run Z h (Z.BW ws) h':=by
  intro d x hx he hw ht;refine⟨d.toList.map λs=>(s,x),by rw[<-L1];exact he,λp hp=>?_,λp hp t o hl=>?_,λZ=>by rw[<-L1];exact ht Z⟩;.obtain⟨s,hs,rfl⟩:=Ay.1 hp;exact hw hs
  .obtain⟨s,hs,rfl⟩:=Ay.1 hp;exact absurd hl (hx t o)
 have RZ:∀(dem:Option (Nat×Aa)) (d:Option Nat) (x:BQ),(∀t o,x≠ .Cc t o)->U'=(U.BA dem).put d x->d.toList⊆r.wf->(dem.map (·.1)).toList⊆r.wf->(∀Z,r.Gu C run Z h ((Z.BA dem).put d x) h')->
   ∃ws,U'=U.BW ws/\(∀p∈ws,p.1∈r.wf)/\(∀p∈ws,∀t o,p.2= .Cc t o->t∈r.QJ)/\∀Z,r.Gu C run Z h (Z.BW ws) h':=by
  intro dem d x hx he hw T1 ht;have e:∀Z:Av,(Z.BA dem).put d x=Z.BW ((dem.toList.map λp=>(p.1,.val p.2))++d.toList.map λs=>(s,x)):=λZ=>by rw[Av.Em,<-Ss,<-L1]
  refine⟨_,by rw[he,e],λp hp=>?_,λp hp t o hl=>?_,λZ=>by rw[<-e];exact ht Z⟩
  .rcases Aj.1 hp with hp|hp
   .obtain⟨q,hq,rfl⟩:=Ay.1 hp;exact T1 (by cases dem<;>simp_all)
   .obtain⟨s,hs,rfl⟩:=Ay.1 hp;exact hw hs
  .rcases Aj.1 hp with hp|hp
   .obtain⟨q,hq,rfl⟩:=Ay.1 hp;cases hl
   .obtain⟨s,hs,rfl⟩:=Ay.1 hp;exact absurd hl (hx t o)
 cases r with
 |pure ws=>obtain⟨rfl,rfl⟩:=hd;refine⟨ws,rfl,λp hp=>Ay.2 ⟨p,hp,rfl⟩,λp hp t o hl=>?_,λZ=>⟨rfl,rfl⟩⟩;exact B6.2 ⟨p.2,Ay.2 ⟨p,hp,rfl⟩,by rw[hl]⟩
 |op p args dst A5 dem=>obtain⟨v,hv,rfl,rfl⟩:=hd;exact RZ dem dst _ (by cases A5<;>simp) rfl (by simp[BV.wf]) (by simp[BV.wf]) λZ=>⟨v,hv,rfl,rfl⟩
 |box n v d=>obtain⟨hn,rfl,rfl⟩:=hd;exact one (some d) _ (by simp) rfl (by simp[BV.wf]) λZ=>⟨hn,rfl,rfl⟩
 |closure fn x b fz d=>
  obtain⟨rfl,rfl⟩:=hd;refine⟨(fz.map λ(s,cs)=>(s,.val (.A9 cs)))++[(d,.val (.func fn x b))],by rw[Av.Em];rfl,λp hp=>?_,λp hp t o hl=>?_,λZ=>⟨by rw[Av.Em];rfl,rfl⟩⟩
  .rcases Aj.1 hp with hp|hp
   .obtain⟨q,hq,rfl⟩:=Ay.1 hp;exact qJ _ (Ay.2 ⟨q,hq,rfl⟩)
   .simp at hp;subst hp;simp[BV.wf]
  .rcases Aj.1 hp with hp|hp
   .obtain⟨q,hq,rfl⟩:=Ay.1 hp;cases hl
   .simp at hp;subst hp;cases hl
 |Ge s off n v A5 dem ver cells owned=>obtain⟨hn,rfl,rfl⟩:=hd;exact RZ dem (some s) _ (by simp) rfl (by simp[BV.wf]) (by simp[BV.wf]) λZ=>⟨hn,rfl,rfl⟩
 |load n p dst=>obtain⟨v,hv,rfl,rfl⟩:=hd;exact one dst _ (by simp) rfl (by simp[BV.wf]) λZ=>⟨v,hv,rfl,rfl⟩
 |store n p v=>obtain⟨hv,rfl⟩:=hd;exact one none .undef (by simp) rfl (by simp) λZ=>⟨hv,rfl⟩
 |alloc n v dst=>obtain⟨hn,rfl,rfl⟩:=hd;exact one dst _ (by simp) rfl (by simp[BV.wf]) λZ=>⟨hn,rfl,rfl⟩
 |call f args dst=>obtain⟨v,hv,rfl⟩:=hd;exact one dst _ (by intro t o;split<;>simp) rfl (by simp[BV.wf]) λZ=>⟨v,hv,rfl⟩
 |B7 g args dst=>obtain⟨f,x,v,h1,h2,rfl⟩:=hd;exact one dst _ (by simp) rfl (by simp[BV.wf]) λZ=>⟨f,x,v,h1,h2,rfl⟩
 |AW f args dst=>obtain⟨FX,v,h1,h2,h3,rfl,rfl⟩:=hd;exact one dst _ (by simp) rfl (by simp[BV.wf]) λZ=>⟨FX,v,h1,h2,h3,rfl,rfl⟩
 |GO dst=>obtain⟨rfl,rfl⟩:=hd;exact one dst _ (by simp) rfl (by simp[BV.wf]) λZ=>⟨rfl,rfl⟩
 |Dt m k v=>obtain⟨hv,rfl⟩:=hd;exact one none .undef (by simp) rfl (by simp) λZ=>⟨hv,rfl⟩
 |Fy z ok m k dst=>obtain⟨v,hv,rfl,rfl⟩:=hd;exact one dst _ (by simp) rfl (by simp[BV.wf]) λZ=>⟨v,hv,rfl,rfl⟩
 |make z b zero l c dst=>obtain⟨v,hv,rfl⟩:=hd;exact one dst _ (by simp) rfl (by simp[BV.wf]) λZ=>⟨v,hv,rfl⟩
 |Eh z b s x dst dem=>obtain⟨v,hv,rfl⟩:=hd;exact RZ dem dst _ (by simp) rfl (by simp[BV.wf]) (by simp[BV.wf]) λZ=>⟨v,hv,rfl⟩
 |Dm z b s x dst=>obtain⟨v,hv,rfl⟩:=hd;exact one dst _ (by simp) rfl (by simp[BV.wf]) λZ=>⟨v,hv,rfl⟩
 |CM z b s x dst dem=>obtain⟨v,hv,rfl,rfl⟩:=hd;exact RZ dem dst _ (by simp) rfl (by simp[BV.wf]) (by simp[BV.wf]) λZ=>⟨v,hv,rfl,rfl⟩
 |B8 s dst=>obtain⟨v,hv,rfl⟩:=hd;exact one dst _ (by simp) rfl (by simp[BV.wf]) λZ=>⟨v,hv,rfl⟩
 |Oa s dst=>obtain⟨v,u,h1,h2,rfl⟩:=hd;exact one dst _ (by simp) rfl (by simp[BV.wf]) λZ=>⟨v,u,h1,h2,rfl⟩
 |mem o args dst=>obtain⟨v,hv,rfl⟩:=hd;exact one dst _ (by intro t o';split<;>simp) rfl (by simp[BV.wf]) λZ=>⟨v,hv,rfl⟩
def J9{r:BV}(hd:r.Gu C run U h U' h')(he:r.I8=false):h'=h/\
  (r.hl=false->∀h2,r.Gu C run U h2 U' h2)/\
  ∀n p d,r= .load n p (some d)->∃v,Ck h n p=some v/\U'=U.set d (.val v)/\∀h2,Ck h2 n p=some v->r.Gu C run U h2 U' h2:=by
 cases r<;>simp only[BV.I8] at he<;>try(exact absurd he (by decide))
 case pure ws=>obtain⟨rfl,rfl⟩:=hd;exact⟨rfl,λ_ _=>⟨rfl,rfl⟩,by simp⟩
 case op p args dst A5 dem=>obtain⟨v,hv,rfl,rfl⟩:=hd;exact⟨rfl,λ_ _=>⟨v,hv,rfl,rfl⟩,by simp⟩
 case box n v d=>obtain⟨hn,rfl,rfl⟩:=hd;exact⟨rfl,λ_ _=>⟨hn,rfl,rfl⟩,by simp⟩
 case closure fn x b fz d=>obtain⟨rfl,rfl⟩:=hd;exact⟨rfl,λ_ _=>⟨rfl,rfl⟩,by simp⟩
 case Ge s off n v A5 dem ver cells owned=>obtain⟨hn,rfl,rfl⟩:=hd;exact⟨rfl,λ_ _=>⟨hn,rfl,rfl⟩,by simp⟩
 case load n p dst=>obtain⟨v,hv,rfl,rfl⟩:=hd;refine⟨rfl,λhh=>absurd hh (by simp[BV.hl]),λn' p' d he=>?_⟩;cases he;exact⟨v,hv,rfl,λh2 h2v=>⟨v,h2v,rfl,rfl⟩⟩
 case Fy z ok m k dst=>obtain⟨v,hv,rfl,rfl⟩:=hd;exact⟨rfl,λhh=>absurd hh (by simp[BV.hl]),by simp⟩
 case AW f args dst=>obtain⟨FX,v,h1,h2,h3,rfl,rfl⟩:=hd;exact⟨rfl,λ_ _=>⟨FX,v,h1,h2,h3,rfl,rfl⟩,by simp⟩
def KE{ds:List Nat}(hn:Gf U ds=true):U.drop ds=U:=by
 refine Av.ext (Av.length_drop U ds) λt=>?_;rw[Av.Lb];cases hx:U.at t with
 |Cc t' o=>have:=G5.1 hn t t' o hx;simp[this]
 |_=>rfl
def Im{o:Oper}(h:∀t∈Cr ops o,Z.at t=U.at t):DV ops Z o=DV ops U o:=by
 unfold DV;unfold Cr at h;cases hg:o.guard with
 |none=>rfl
 |some g=>
  obtain⟨j,want⟩:=g;rw[hg] at h;simp only at h⊢;cases hd:(ops[j]?).bind (·.dst) with
  |none=>rfl
  |some s=>
   rw[hd] at h;simp only
   rw[h s (by simp)]
def K4{o:Oper}{r:BV}(hc:CG C fid ops U o=some r)(ht:∀t∈EP o.op.operands.toList,Z.at t=U.at t)(hb:∀s∈Dw C U o,Z.at s=U.at s):Dw C Z o=Dw C U o:=by
 have h:Ld C U Z o.op.operands.toList:= .Q1 ht
 unfold Dw at hb⊢
 cases ho:o.op with
 |load t x=>
  rw[ho] at h hb
  simp only at hb⊢
  have hn:CF C U x≠none:=λhe=>by
   unfold CG at hc
   simp only[ho] at hc
   split at hc
   .unfold Ff at hc;rw[he] at hc;split at hc<;>simp_all
   .cases hc
  unfold GQ
  rw[h.addr (by simp[Op.operands]) hb hn]
 |store t x y=>
  rw[ho] at h hb
  simp only at hb⊢
  have hn:CF C U x≠none:=λhe=>by
   unfold CG at hc
   simp only[ho] at hc
   split at hc
   .unfold D9 at hc;rw[he] at hc;split at hc<;>simp_all
   .cases hc
  unfold GQ
  rw[h.addr (by simp[Op.operands]) hb hn]
 |_=>rfl
def KF{xs:List BQ}{t o:Nat}(h: .Cc t o∈xs):t∈La xs:=B6.2 ⟨_,h,rfl⟩
def HE.spec{s:St}(hs:HE C fid ops run s U h U' h')(hf:s.fp.J0=true):
  ∃ws,U'=U.BW ws/\(∀p∈ws,p.1∈s.fp.wf)/\(∀p∈ws,∀t o,p.2= .Cc t o->t∈s.fp.lr)/\(∀x∈s.fp.wf,∀t o,U.at x= .Cc t o->t∈s.fp.lr)/\Gf U s.fp.news=true/\(s.fp.I8=false->h'=h)/\
   (s.fp.I8=false->s.fp.hl=true->∃f,s.fl=some f)/\
   ∀(Z:Av) (h2 Q2:Ab),Z.length=U.length->(∀x∈s.fp.rs++s.fp.wf,Z.at x=U.at x)->Gf Z s.fp.news=true->
    ((h2=h/\Q2=h')\/(s.fp.I8=false/\Q2=h2/\(s.fp.hl=true->∀f,s.fl=some f->Ck h2 f.n f.p=some f.v)))->HE C fid ops run s Z h2 (Z.BW ws) Q2:=by
 obtain⟨o,ho,⟨hg,bG,FX,rfl,rfl⟩|⟨r,U1,hg,hc,bG,hd,FX,ha⟩⟩:=hs
 .rw[bG] at hf⊢;refine⟨o.dst.toList.map λd=>(d,.skip),L1 _ _ _,λp hp=>?_,λp hp t k hl=>?_,λx hx t k hl=>?_,G5.2 (by simp[KV]),λ_=>rfl,λ_ hh=>absurd hh (by simp[KV]),λZ h2 Q2 hlen T2 _ DY=>?_⟩;.obtain⟨d,hd,rfl⟩:=Ay.1 hp;exact hd
  .obtain⟨d,hd,rfl⟩:=Ay.1 hp;cases hl
  .exact KF (o:=k) (Ay.2 ⟨x,hx,hl⟩)
  .have hh:Q2=h2:=by rcases DY with⟨e1,e2⟩|⟨_,e,_⟩<;>first|exact e|rw[e1,e2]
   refine⟨o,ho,.inl ⟨?_,?_,FX,(L1 _ _ _).symm,hh⟩⟩;.rw[Im λt ht=>T2 t (AR _ ht)];exact hg
   .rw[bG];have e:o.dst.toList.map Z.at=o.dst.toList.map U.at:=rI λx hx=>T2 x (Aw _ hx);simp only[KV,e]
 .rw[bG] at hf⊢;have VQ:r.J0 U=true:=hf;have J7:Gf U r.news=true:=by unfold BV.J0 at VQ;rw[Ao] at VQ;exact VQ.1
  rw[KE J7] at hd;obtain⟨T3,rfl,hw,aa,Nq⟩:=MZ hd;have sK:∃hC:List (Nat×BQ),U'=(U.BW T3).BW hC/\(∀p∈hC,o.dst=some p.1/\∃b,p.2= .Hm b)/\∀Z:Av,Z.length=U.length->(∀x∈r.wf++o.dst.toList,Z.at x=U.at x)->F5 (if Ji ops s.idx then o.dst else none) (Z.BW T3) ((Z.BW T3).BW hC):=by
   by_cases fS:Ji ops s.idx=true
   .rw[if_pos fS] at ha;cases Jv:o.dst with
    |none=>rw[Jv] at ha;exact⟨[],ha,by simp,λZ _ _=>by simp[fS,F5,Av.BW]⟩
    |some d=>
     rw[Jv] at ha;simp only[F5] at ha;have ZL:∀Z:Av,Z.length=U.length->(∀x∈r.wf++[d],Z.at x=U.at x)->(Z.BW T3).at d=(U.BW T3).at d:=λZ hl T2=>Av.D4 T3 U Z d hl (T2 d (by simp));cases hx:(U.BW T3).at d with
     |val v=>rw[hx] at ha;obtain⟨b,rfl,rfl⟩:=ha;refine⟨[(d,.Hm b)],rfl,by simp,λZ hl T2=>?_⟩;simp only[fS,Bc,F5];rw[ZL Z hl T2,hx];exact⟨b,rfl,rfl⟩
     |_=>rw[hx] at ha;refine⟨[],ha,by simp,λZ hl T2=>?_⟩;simp only[fS,Bc,F5];rw[ZL Z hl T2,hx];rfl
   .rw[if_neg fS] at ha;exact⟨[],ha,by simp,λZ _ _=>by rw[if_neg fS];rfl⟩
  obtain⟨hC,rfl,T1,hE⟩:=sK;have qU:r.hl=true->∃n p d,r= .load n p (some d)/\d<U.length:=λhh=>by
   unfold BV.J0 at VQ;rw[Ao] at VQ;cases r with
   |load n p dst=>
    cases dst with
    |none=>exact absurd VQ.2 (by simp)
    |some d=>exact⟨n,p,d,rfl,by simpa using VQ.2⟩
   |Fy _ _ _ _ _=>exact absurd VQ.2 (by simp)
   |_=>simp[BV.hl] at hh
  have hG:r.I8=false->∀n p d,r= .load n p (some d)->d<U.length->∃v,Ck h n p=some v/\s.fl=some {idx:=s.idx,n,p,v}:=by intro he n p d hr T4;obtain⟨v,q1,q2,_⟩:=(J9 hd he).2.2 n p d hr;refine⟨v,q1,?_⟩;rw[FX,hr];simp only[E1];rw[q2,Av.Cn T4]
  have sL:∀(Z:Av) h2 Q2,((h2=h/\Q2=h')\/(r.I8=false/\Q2=h2/\(r.hl=true->∀f,s.fl=some f->Ck h2 f.n f.p=some f.v)))->r.Gu C run Z h2 (Z.BW T3) Q2:=by
   intro Z h2 Q2 DY;rcases DY with⟨rfl,rfl⟩|⟨he,rfl,KB⟩
   .exact Nq Z
   .obtain⟨_,k2,k3⟩:=J9 (Nq Z) he;cases hh:r.hl with
    |false=>exact k2 hh _
    |true=>obtain⟨n,p,d,hr,T4⟩:=qU hh;obtain⟨v,q1,q2⟩:=hG he n p d hr T4;obtain⟨v',p1,_,p3⟩:=k3 n p d hr;rw[q1] at p1;cases p1;exact p3 _ (KB hh _ q2)
  refine⟨T3++hC,by rw[Av.Em],λp hp=>?_,λp hp t k hl=>?_,λx hx t k hl=>?_,J7,λhe=>(J9 hd he).1,λhe hh=>?_,λZ h2 Q2 hlen T2 ae DY=>?_⟩
  .rcases Aj.1 hp with hp|hp
   .exact AR _ (hw p hp)
   .exact Aw _ (by rw[(T1 p hp).1];simp)
  .rcases Aj.1 hp with hp|hp
   .exact Aw _ (aa p hp t k hl)
   .obtain⟨_,b,e⟩:=T1 p hp;rw[e] at hl;cases hl
  .exact AR _ (KF (o:=k) (Ay.2 ⟨x,hx,hl⟩))
  .obtain⟨n,p,d,hr,T4⟩:=qU hh;obtain⟨v,_,q2⟩:=hG he n p d hr T4;exact⟨_,q2⟩
  .have fU:∀t∈Cr ops o++EP o.op.operands.toList++Dw C U o,Z.at t=U.at t:=λt ht=>T2 t (AR _ ht);have hwf:∀t∈r.wf++o.dst.toList,Z.at t=U.at t:=λt ht=>T2 t (Aw _ ht);have ht:∀t∈EP o.op.operands.toList,Z.at t=U.at t:=λt ht=>fU t (by simp[ht]);have hb:∀t∈Dw C U o,Z.at t=U.at t:=λt ht=>fU t (by simp[ht]);have hH:Gf Z r.news=true:=ae;refine⟨o,ho,.inr ⟨r,Z.BW T3,?_,LX hc ht hb,?_,?_,?_,?_⟩⟩;.rw[Im λt ht=>fU t (by simp[ht])];exact hg
   .rw[bG];have e1:(r.wf++o.dst.toList).map Z.at=(r.wf++o.dst.toList).map U.at:=rI λx hx=>hwf x hx;have e2:r.J0 Z=r.J0 U:=by unfold BV.J0;rw[J7,hH,hlen]
    simp only[KV,e1,e2,K4 hc ht hb]
   .rw[KE hH];exact sL Z h2 Q2 DY
   .rw[FX];exact(My λd hd=>Av.D4 T3 U Z d hlen (hwf d (AR _ hd))).symm
   .rw[Av.Em];exact hE Z hlen hwf
end
end Go.Am
end
section
namespace Go.Am
open Go
section
variable{C:CB}{fid:FuncId}{ops:List Oper}{run:IT->Ab->Option Ep}{an:List Nat}
def Fw{a b:List Nat}(h:(!Kw a b)=true){x:Nat}(hx:x∈a):x∉b:=λhb=>by have:Kw a b=true:=Sr.2 ⟨x,hx,hb⟩;simp[this] at h
def swap{p s:St}{U σa U1:Av}{h ha h1:Ab}(hp:HE C fid ops run p U h σa ha)(hs:HE C fid ops run s σa ha U1 h1)(Fm:ID p.fp s.fp=true)
  (KB:s.fp.I8=true->∀f,p.fl=some f->Ck h1 f.n f.p=some f.v):
  ∃σs Oe,HE C fid ops run s U h σs Oe/\HE C fid ops run p σs Oe U1 h1/\(s.fp.I8=true->Oe=h1)/\(p.fp.I8=true->h1=ha):=by
 unfold ID FP.apart at Fm;simp only[Ao] at Fm;obtain⟨⟨⟨⟨pf,sf⟩,⟨⟨a1,a2⟩,a3⟩,a4⟩,he⟩,hl⟩:=Fm;obtain⟨wsp,rfl,sM,VB,af,wQ,wR,ag,ZM⟩:=hp.spec pf;obtain⟨wss,rfl,sN,Sg,ji,wS,Ph,jj,T5⟩:=hs.spec sf;have outp:∀x∈s.fp.rs++s.fp.wf,(U.BW wsp).at x=U.at x:=λx hx=>Av.CX wsp U x λq hq e=>Fw a1 (sM q hq) (by rw[e];exact hx);have hnsσ:Gf U s.fp.news=true:=by
  rw[G5] at wS⊢;intro x t o hx;by_cases hw:x∈p.fp.wf;.exact Fw a3 (af x hw t o hx)
  .refine wS x t o ?_;rw[Av.CX wsp U x λq hq e=>hw (by rw[<-e];exact sM q hq)];exact hx
 have hlen:∀(Z:Av) (ws:List (Nat×BQ)),(Z.BW ws).length=Z.length:=λZ ws=>Av.En ws Z;have ZN:(U.BW wss).BW wsp=(U.BW wsp).BW wss:=(Av.Sq λq hq r hr e=>by have:=Fw a1 (sM q hq);exact this (Aw _ (by rw[e];exact sN r hr))).symm
 have outs:∀x∈p.fp.rs++p.fp.wf,(U.BW wss).at x=U.at x:=λx hx=>Av.CX wss U x λq hq e=>by
  rcases Aj.1 hx with hx|hx
  .exact Fw a2 (sN q hq) (by rw[e];exact hx)
  .exact Fw a1 hx (Aw _ (by rw[<-e];exact sN q hq))
 have wT:Gf (U.BW wss) p.fp.news=true:=by
  rw[G5] at wQ⊢;intro x t o hx;rcases Av.LZ wss U x with h0|⟨q,hq,_,h2⟩
  .exact wQ x t o (by rw[<-h0];exact hx)
  .rw[h2] at hx;exact Fw a4 (Sg q hq t o hx)
 by_cases Ef:s.fp.I8=true
 .have fV:p.fp.I8=false:=by
   cases hq:p.fp.I8 with
   |false=>rfl
   |true=>simp[Ef,hq] at he
  have qV:ha=h:=wR fV;subst qV;refine⟨U.BW wss,h1,T5 U ha h1 (hlen U wsp).symm (λx hx=>(outp x hx).symm) hnsσ (.inl ⟨rfl,rfl⟩),?_,λ_=>rfl,λe=>by rw[fV] at e;cases e⟩;rw[<-ZN];exact ZM (U.BW wss) h1 h1 (hlen U wss) outs wT (.inr ⟨fV,rfl,λ_ f hf=>KB Ef f hf⟩)
 .have hO:s.fp.I8=false:=by simpa using Ef
  have ah:h1=ha:=Ph hO;subst ah;refine⟨U.BW wss,h,?_,?_,λe=>absurd e Ef,λ_=>rfl⟩
  .by_cases fV:p.fp.I8=true;.refine T5 U h h (hlen U wsp).symm (λx hx=>(outp x hx).symm) hnsσ (.inr ⟨hO,rfl,λhh=>?_⟩);simp[fV,hh] at hl
   .have sO:p.fp.I8=false:=by simpa using fV
    have qV:=wR sO;exact T5 U h h (hlen U wsp).symm (λx hx=>(outp x hx).symm) hnsσ (.inl ⟨qV.symm,qV.symm⟩)
  .rw[<-ZN];exact ZM (U.BW wss) h h1 (hlen U wss) outs wT (.inl ⟨rfl,rfl⟩)
inductive Steps(C:CB)(fid:FuncId)(ops:List Oper)(run:IT->Ab->Option Ep)(an:List Nat):List EK->List St->Av->Ab->Av->Ab->Prop
 |nil {fl:List EK} {U:Av} {h:Ab}:Steps C fid ops run an fl [] U h U h
 |cons {fl:List EK} {s:St} {L:List St} {U U1 σf:Av} {h h1 hf:Ab}:HE C fid ops run s U h U1 h1->(s.fp.I8=true->∀f∈fl,BO an f.idx s.idx=false->Ck h1 f.n f.p=some f.v)->
  Steps C fid ops run an (s.fl.toList++fl) L U1 h1 σf hf->Steps C fid ops run an fl (s::L) U h σf hf
def Steps.sub{fl:List EK}{L:List St}{U σf:Av}{h hf:Ab}(hs:Steps C fid ops run an fl L U h σf hf):∀{qW:List EK},(∀f∈qW,f∈fl)->Steps C fid ops run an qW L U h σf hf:=by
 induction hs with
 |nil=>intro qW _;exact .nil
 |cons h1 h2 _ ih=>
  intro qW VR;refine .cons h1 (λhe f hf hb=>h2 he f (VR f hf) hb) (ih λf hf=>?_);rcases Aj.1 hf with hf|hf
  .exact AR _ hf
  .exact Aw _ (VR f hf)
def HE.bH{s:St}{U U':Av}{h h':Ab}(hs:HE C fid ops run s U h U' h'){f:EK}(hf:s.fl=some f):f.idx=s.idx:=by
 obtain⟨o,_,⟨_,_,FX,_⟩|⟨r,U1,_,_,_,_,FX,_⟩⟩:=hs;.rw[FX] at hf;cases hf
 .rw[FX] at hf;unfold E1 at hf;split at hf
  .split at hf;.cases hf;rfl
   .cases hf
  .cases hf
def Steps.lt{fl:List EK}{L:List St}{U σf:Av}{h hf:Ab}(hs:Steps C fid ops run an fl L U h σf hf):∀q∈L,q.idx<ops.length:=by
 induction hs with
 |nil=>simp
 |cons h1 _ _ ih=>
  intro q hq;rcases AP.1 hq with rfl|hq
  .obtain⟨o',h2,_⟩:=h1;exact(Af.1 h2).1
  .exact ih q hq
def ZO{s:St}{B:List St}{σf:Av}{hf:Ab}:∀{A:List St} {fl:List EK} {U:Av} {h:Ab},Steps C fid ops run an fl (A++s::B) U h σf hf->(∀p∈A,ID p.fp s.fp=true/\BO an p.idx s.idx=false)->
  ∃U1 h1,HE C fid ops run s U h U1 h1/\(s.fp.I8=true->∀f∈fl,BO an f.idx s.idx=false->Ck h1 f.n f.p=some f.v)/\Steps C fid ops run an (s.fl.toList++fl) (A++B) U1 h1 σf hf
 |[],fl,U,h,hs,_=>by
  cases hs with
  |cons h1 h2 h3=>exact⟨_,_,h1,h2,h3⟩
 |p::A,fl,U,h,hs,hA=>by
  cases hs with
  |cons h1 h2 h3=>
   rename_i σa ha;obtain⟨U1,ZA,k1,k2,k3⟩:=ZO h3 λq hq=>hA q (by simp[hq]);obtain⟨Fm,sP⟩:=hA p (by simp);obtain⟨σs,Oe,w1,w2,w3,w4⟩:=swap h1 k1 Fm λhe f hf=>k2 he f (by rw[hf];simp) (by rw[h1.bH hf];exact sP);refine⟨σs,Oe,w1,λhe f hf hb=>?_,.cons w2 (λhe f hf hb=>?_) (k3.sub λf hf=>?_)⟩;.rw[w3 he];exact k2 he f (Aw _ hf) hb
   .rw[w4 he];rcases Aj.1 hf with hf|hf
    .exfalso;unfold ID at Fm;simp only[Ao] at Fm;obtain⟨⟨⟨⟨_,sf⟩,_⟩,jk⟩,hl⟩:=Fm;cases PV:s.fl with
     |none=>rw[PV] at hf;simp at hf
     |some g=>
      have qU:s.fp.hl=true:=by
       obtain⟨o,_,⟨_,_,FX,_⟩|⟨r,U1',_,_,bG,_,FX,_⟩⟩:=k1;.rw[FX] at PV;cases PV
       .rw[FX] at PV;unfold E1 at PV;split at PV;.rw[bG];rfl
        .cases PV
      simp[he,qU] at hl
    .exact h2 he f hf hb
   .rcases Aj.1 hf with hf|hf
    .exact Aw _ (AR _ hf)
    .rcases Aj.1 hf with hf|hf
     .exact AR _ hf
     .exact Aw _ (Aw _ hf)
def Io{BE:List Nat}{x:Nat}:∀(ds:List Nat) (m:Nat),(ds.foldl (λm e=>m|||fH e|||BE.getD e 0) m).testBit x=true↔m.testBit x=true\/∃e∈ds,x=e\/(BE.getD e 0).testBit x=true
 |[],m=>by simp
 |d::ds,m=>by
  rw[SX,Io ds];simp only[Nat.testBit_or,fH,Nat.testBit_two_pow,Hb,CO,AP,exists_eq_or_imp];constructor
  .rintro((h|h)|h)
   .rcases h with h|h
    .exact .inl h
    .exact .inr (.inl (.inl h.symm))
   .exact .inr (.inl (.inr h))
   .exact .inr (.inr h)
  .rintro(h|(h|h)|h);.exact .inl (.inl (.inl h))
   .exact .inl (.inl (.inr h.symm))
   .exact .inl (.inr h)
   .exact .inr h
def Fs:∀(l:List Oper) (BE:List Nat) (i:Nat),i<BE.length->(E6 BE l).getD i 0=BE.getD i 0
 |[],BE,i,h=>rfl
 |o::l,BE,i,h=>by rw[E6,Fs l _ i (by simp;omega)];simp[List.getD,As h]
def Ip:∀(l:List Oper) (BE:List Nat) (k:Nat) (o:Oper),l[k]?=some o->(∀e∈Oper.KU o,e<BE.length+k)->∀x,
  ((E6 BE l).getD (BE.length+k) 0).testBit x=true↔∃e∈Oper.KU o,x=e\/((E6 BE l).getD e 0).testBit x=true
 |[],BE,k,o,h,_,x=>by simp at h
 |o'::l,BE,0,o,h,hd,x=>by
  simp at h;subst h;rw[E6,Fs l _ (BE.length+0) (by simp)];have e1:(BE++[(Oper.KU o').foldl (λm e=>m|||fH e|||BE.getD e 0) 0]).getD (BE.length+0) 0=(Oper.KU o').foldl (λm e=>m|||fH e|||BE.getD e 0) 0:=by simp[List.getD]
  rw[e1,Io];simp only[Nat.zero_testBit,B5,false_or];constructor;.rintro⟨e,he,h⟩;refine⟨e,he,h.imp id λh=>?_⟩;have hlt:e<BE.length:=hd e he;rw[Fs l _ e (by simp;omega)];simpa[List.getD,As hlt] using h
  .rintro⟨e,he,h⟩;refine⟨e,he,h.imp id λh=>?_⟩;have hlt:e<BE.length:=hd e he;rw[Fs l _ e (by simp;omega)] at h;simpa[List.getD,As hlt] using h
 |o'::l,BE,k+1,o,h,hd,x=>by simp at h;rw[E6];have:=Ip l (BE++[(Oper.KU o').foldl (λm e=>m|||fH e|||BE.getD e 0) 0]) k o h (λe he=>by have:=hd e he;simp;omega) x;simp only[An,AF,A4,AL] at this;rw[show BE.length+(k+1)=BE.length+1+k by omega];exact this
def M0{i:Nat}{o:Oper}(ho:ops[i]?=some o)(hd:∀e∈Oper.KU o,e<i)(x:Nat):BO (Ls ops) x i=true↔∃e∈Oper.KU o,x=e\/BO (Ls ops) x e=true:=by have:=Ip ops [] i o ho (by simpa using hd) x;simpa[BO,Ls] using this
def HF(h:No ops=true){i:Nat}{o:Oper}(ho:ops[i]?=some o):∀e∈Oper.KU o,e<i:=by
 unfold No at h;rw[Cb] at h;have:=h (o,i) (by refine AT (i:=i) ?_;simp[List.getElem?_zipIdx,ho])
 intro e he;simpa using Cb.1 this e he
def M1:∀{l:List (Nat×FP)},Lu.go an l=true->l.Pairwise λx y=>x.1≠y.1/\BO an y.1 x.1=false/\(BO an x.1 y.1=true\/ID x.2 y.2=true)
 |[],_=> .nil
 |(i,f)::l,h=>by simp only[Lu.go,Ao,Cb] at h;refine .cons (λy hy=>?_) (M1 h.2);have:=h.1 y hy;simp only[bne_iff_ne,yY,Hb] at this;exact⟨this.1.1,this.1.2,this.2⟩
def T6{d:Option Nat}{U:Av}{K:Av->IT}{h:Ab}{R:Ep}(hr:IT.step (AH C) run (QK d U K) h=some R):∃U',F5 d U U'/\IT.step (AH C) run (K U') h=some R:=by
 unfold QK at hr;cases d with
 |none=>exact⟨U,rfl,hr⟩
 |some d=>
  simp only at hr;cases hx:U.at d with
  |val v=>
   rw[hx] at hr;simp only[IT.step] at hr;split at hr;.exact⟨U.set d (.Hm true),by simp only[F5,hx];exact⟨true,rfl,rfl⟩,hr⟩
   .exact⟨U.set d (.Hm false),by simp only[F5,hx];exact⟨false,rfl,rfl⟩,hr⟩
   .cases hr
  |_=>rw[hx] at hr;exact⟨U,by simp only[F5,hx],hr⟩
def G6{i:Nat}{t:IT}{h:Ab}{R:Ep}:∀{fl:List EK},IT.step (AH C) run (Jh an i fl t) h=some R->(∀f∈fl,BO an f.idx i=false->Ck h f.n f.p=some f.v)/\IT.step (AH C) run t h=some R
 |[],hr=>⟨by simp,hr⟩
 |f::fl,hr=>by
  unfold Jh at hr;by_cases hb:BO an f.idx i=true
  .rw[if_pos hb] at hr;obtain⟨k1,k2⟩:=G6 hr;refine⟨λg hg hZ=>?_,k2⟩;rcases AP.1 hg with rfl|hg
   .rw[hb] at hZ;cases hZ
   .exact k1 g hg hZ
  .rw[if_neg hb] at hr;simp only[IT.step] at hr;split at hr
   .rename_i v hv;split at hr
    .rename_i EI;obtain⟨k1,k2⟩:=G6 hr;refine⟨λg hg hZ=>?_,k2⟩;rcases AP.1 hg with rfl|hg
     .rw[Aa.beq_eq EI];exact hv
     .exact k1 g hg hZ
    .cases hr
   .cases hr
def IL{K:Av->IT}{R:Ep}:∀{rest:List Nat} {ann:List (Nat×FP)} {fl:List EK} {U:Av} {h:Ab},IT.step (AH C) run (IE C fid ops an rest ann fl U K) h=some R->
  ∃L σf hf,Steps C fid ops run an fl L U h σf hf/\Lu ops.length an (ann.reverse++L.map λs=>(s.idx,s.fp))=true/\IT.step (AH C) run (K σf) hf=some R
 |[],ann,fl,U,h,hr=>by
  unfold IE at hr;split at hr;.rename_i Fm;exact⟨[],U,h,.nil,by simpa using Fm,hr⟩
  .cases hr
 |i::rest,ann,fl,U,h,hr=>by
  unfold IE at hr;cases ho:ops[i]? with
  |none=>rw[ho] at hr;cases hr
  |some o=>
   rw[ho] at hr;simp only at hr;split at hr
   .rename_i hg;split at hr;.cases hr
    .rename_i r hc;obtain⟨U1,h1,hd,hr⟩:=MM hr;have DC:(r.I8=true->∀f∈fl,BO an f.idx i=false->Ck h1 f.n f.p=some f.v)/\IT.step (AH C) run (QK (if Ji ops i then o.dst else none) U1 λU''=>IE C fid ops an rest ((i,KV C ops U o (some r))::ann) (F1 i r U1 fl) U'' K) h1=some R:=by
      split at hr;.obtain⟨k1,k2⟩:=G6 hr;exact⟨λ_=>k1,k2⟩
      .rename_i he;exact⟨λe=>absurd e he,hr⟩
     obtain⟨KB,hr⟩:=DC;obtain⟨U',ha,hr⟩:=T6 hr;rw[L0] at hr;obtain⟨L,σf,hf,k1,k2,k3⟩:=IL hr;exact⟨{idx:=i,fp:=KV C ops U o (some r),fl:=E1 i r U1}::L,σf,hf,.cons ⟨o,ho,.inr ⟨r,U1,hg,hc,rfl,hd,rfl,ha⟩⟩ KB k1,by simpa using k2,k3⟩
   .rename_i hg;obtain⟨L,σf,hf,k1,k2,k3⟩:=IL hr;exact⟨{idx:=i,fp:=KV C ops U o none,fl:=none}::L,σf,hf,.cons ⟨o,ho,.inl ⟨hg,rfl,rfl,rfl,rfl⟩⟩ (λe=>by simp[KV] at e) k1,by simpa using k2,k3⟩
   .cases hr
end
section
variable{C:CB}{γ0 γ:Gh}{w0 w:World}{O:Nat->Nat}{U:Av}{h:Ab}{a:Act}{fid:FuncId}
def Ft(hr:Bk C γ0 w0 γ O U h a w){ops:Array Oper}{o:Oper}{b:Bool}(hg:DV ops.toList U o= .Gr b):Region.wanted o (yielded ops a.tmps)=b:=by
 unfold DV at hg;unfold Region.wanted;cases ho:o.guard with
 |none=>rw[ho] at hg;cases hg;rfl
 |some g=>
  obtain⟨j,want⟩:=g;rw[ho] at hg;simp only[gF] at hg⊢;unfold yielded;cases hd:(ops[j]?).bind (·.dst) with
  |none=>rw[hd] at hg;cases hg
  |some s=>
   rw[hd] at hg;simp only[Bx] at hg⊢;have h0:=hr.fr.DG s;cases hx:U.at s with
   |Hm c=>
    rw[hx] at hg h0;cases hg;have hl:s<a.tmps.size:=by rw[<-hr.fr.size];exact Av.Hu (by rw[hx];simp)
    have hv:a.tmps.getD s undef= .bool c:=h0;have:a.tmps[s]?=some (.bool c):=by rw[AY hl];rw[C6,AY hl] at hv;exact Bm some hv
    rw[this];rfl
   |skip=>
    rw[hx] at hg h0;cases hg;have hv:a.tmps.getD s undef=undef:=h0;have hne:∀c,a.tmps[s]?≠some (.bool c):=λc hc=>by rw[C6,hc] at hv;cases hv
    cases ht:a.tmps[s]? with
    |none=>rfl
    |some v=>
     cases v with
     |bool c=>exact absurd ht (hne c)
     |_=>rfl
   |val v=>rw[hx] at hg;cases hg
   |_=>rw[hx] at hg;cases hg
def Bk.iA(hr:Bk C γ0 w0 γ O U h a w){d:Option Nat}{U':Av}(ha:F5 d U U'):Bk C γ0 w0 γ O U' h a w:=by
 unfold F5 at ha;cases d with
 |none=>simp only at ha;rw[ha];exact hr
 |some d=>
  simp only at ha;cases hx:U.at d with
  |val v=>rw[hx] at ha;obtain⟨b,rfl,rfl⟩:=ha;have h0:=hr.fr.DG d;rw[hx] at h0;exact hr.Od h0
  |_=>rw[hx] at ha;rw[ha];exact hr
structure sQ(ops:Array Oper)(listed:Array Bool)(L:List St):Prop where
 size:listed.size=ops.size
 un:∀i,i<ops.size->(listed.getD i false=false↔i∈L.map (·.idx))
 closed:∀j,listed.getD j false=true->∀e,BO (Ls ops.toList) e j=true->listed.getD e false=true
abbrev Q3(an:List Nat)(L:List St):Prop:=L.Pairwise λx y=>x.idx≠y.idx/\BO an y.idx x.idx=false/\(BO an x.idx y.idx=true\/ID x.fp y.fp=true)
def Su{run:IT->Ab->Option Ep}(hS:Ca C run){ops:Array Oper}{Q:Exit->Act->World->Prop}(CA:No ops.toList=true){σf:Av}{hf:Ab}(hQ:∀γ' O' a' w',Bk C γ0 w0 γ' O' σf hf a' w'->Q .normal a' w'):
  ∀(fuel:Nat) (L:List St) (listed:Array Bool) (γ:Gh) (O:Nat->Nat) (U:Av) (h:Ab) (a:Act) (w:World),L.length=fuel->Steps C fid ops.toList run (Ls ops.toList) [] L U h σf hf->Q3 (Ls ops.toList) L->sQ ops listed L->Bk C γ0 w0 γ O U h a w->
   wpAny C.P .any ops Q fuel listed a w:=by
 intro fuel;induction fuel with
 |zero=>
  intro L listed γ O U h a w hL hs hp ho hr;have hL0:L=[]:=Bq hL;subst hL0;cases hs;refine⟨List.eq_nil_iff_forall_not_mem.2 λi hi=>?_,hQ _ _ _ _ hr⟩;obtain⟨h0,o,Vp,_⟩:=mem_ready.1 hi;have hlt:i<ops.size:=(Ae.1 Vp).1;have sG:listed.getD i false=false:=by
   have hl:i<listed.size:=by rw[ho.size];exact hlt
   simpa[Array.getD,hl] using h0
  have:=(ho.un i hlt).1 sG;simp at this
 |succ fuel ih=>
  intro L listed γ O U h a w hL hs hp ho hr;have Nz:∀i,i<ops.size->listed.getD i true=listed.getD i false:=λi hi=>by
   have hl:i<listed.size:=by rw[ho.size];exact hi
   simp[Array.getD,hl]
  constructor
  .intro KB;exfalso;cases L with
   |nil=>simp at hL
   |cons s0 L=>
    obtain⟨o,Vp,_⟩:∃o,ops.toList[s0.idx]?=some o/\True:=by
     cases hs with
     |cons h1 _ _=>obtain⟨o,h2,_⟩:=h1;exact⟨o,h2,trivial⟩
    have PX:ops[s0.idx]?=some o:=by simpa using Vp
    have hlt:s0.idx<ops.size:=(Ae.1 PX).1;have:s0.idx∈Region.ready .any ops listed:=by
     refine mem_ready.2 ⟨?_,o,PX,λe he hb=>?_⟩;.rw[Nz _ hlt];exact(ho.un _ hlt).2 (by simp)
     .have qX:e.on∈Oper.KU o:=B6.2 ⟨e,by simpa using he,by rw[if_pos hb]⟩;have jl:=HF CA Vp e.on qX;cases hl:listed.getD e.on false with
      |true=>rfl
      |false=>
       have hm:=(ho.un e.on (by omega)).1 hl;simp only[Be,AP] at hm;rcases hm with hm|hm
       .omega
       .obtain⟨y,hy,ai⟩:=Ay.1 hm;have:=((vX.1 hp).1 y hy).2.1;rw[ai,(M0 Vp (HF CA Vp) e.on).2 ⟨e.on,qX,.inl rfl⟩] at this;cases this
    rw[KB] at this;cases this
  .intro i hi;obtain⟨h0,o,Vp,iB⟩:=mem_ready.1 hi;have hlt:i<ops.size:=(Ae.1 Vp).1;rw[Nz i hlt] at h0;obtain⟨s,hsL,rfl⟩:=Ay.1 ((ho.un i hlt).1 h0);obtain⟨A,B,rfl⟩:=List.append_of_mem hsL;have PX:ops.toList[s.idx]?=some o:=by simpa using Vp
   have iC:∀e,BO (Ls ops.toList) e s.idx=true->listed.getD e false=true:=λe he=>by
    obtain⟨d,hd,DY⟩:=(M0 PX (HF CA PX) e).1 he;obtain⟨ed,qX,hb⟩:=B6.1 hd;split at hb
    .rename_i Mo;cases hb;have T4:=iB ed (by simpa using qX) Mo;rcases DY with rfl|DY
     .exact T4
     .exact ho.closed _ T4 e DY
    .cases hb
   have hApair:=(qK.1 hp).2.2;have bI:∀p∈A++s::B,p.idx<ops.size:=λp fK=>by simpa using hs.lt p fK
   obtain⟨U1,h1,k1,_,k3⟩:=ZO hs λp hpA=>by
    have hb:BO (Ls ops.toList) p.idx s.idx=false:=by
     cases Mo:BO (Ls ops.toList) p.idx s.idx with
     |false=>rfl
     |true=>have h1:=iC _ Mo;have h2:=(ho.un p.idx (bI p (by simp[hpA]))).2 (Ay.2 ⟨p,by simp[hpA],rfl⟩);rw[h1] at h2;cases h2
    refine⟨?_,hb⟩;have:=(hApair p hpA s (by simp)).2.2;rw[hb] at this;exact this.resolve_left (by simp)
   have ZP:∀γ' O' a' w',Bk C γ0 w0 γ' O' U1 h1 a' w'->wpAny C.P .any ops Q fuel (listed.setIfInBounds s.idx true) a' w':=λγ' O' a' w' DC=>by
    refine ih (A++B) _ γ' O' U1 h1 a' w' (by simp at hL⊢;omega) (k3.sub (by simp)) ?_ ⟨by simp[ho.size],λj hj=>?_,λj hj e he=>?_⟩ DC;.exact hp.sublist ((List.Sublist.refl A).append (List.sublist_cons_self s B))
    .by_cases fW:j=s.idx
     .subst fW;have bJ:s.idx∉(A++B).map (·.idx):=λhm=>by
       obtain⟨q,hq,he⟩:=Ay.1 hm;rcases Aj.1 hq with hq|hq
       .exact(hApair q hq s (by simp)).1 he
       .exact(vX.1 (qK.1 hp).2.1).1 q hq |>.1 he.symm
      have ht:(listed.setIfInBounds s.idx true).getD s.idx false=true:=by
       have hl:s.idx<listed.size:=by rw[ho.size];exact hlt
       simp[Array.getD,hl]
      rw[ht];exact⟨λe=>absurd e (by simp),λe=>absurd e bJ⟩
     .rw[getD_set_ne false (λe=>fW e.symm),ho.un j hj];simp only[KQ,Be,Aj,AP];constructor
      .rintro(e|e|e);.exact .inl e
       .exact absurd e fW
       .exact .inr e
      .rintro(e|e);.exact .inl e
       .exact .inr (.inr e)
    .by_cases fW:j=s.idx;.subst fW;exact getD_set_true (iC e he)
     .rw[getD_set_ne false (λe=>fW e.symm)] at hj;exact getD_set_true (ho.closed j hj e he)
   unfold wpOp;rw[Vp];obtain⟨o',Vn,⟨hg,_,_,rfl,rfl⟩|⟨r,U2,hg,hc,_,hd,_,ha⟩⟩:=k1;.rw[PX] at Vn;cases Vn;simp only[Ft hr hg,B5,JN];exact ZP _ _ _ _ (hr.put λ_ _=>rfl)
   .rw[PX] at Vn;cases Vn;simp only[Ft hr hg,Bc];exact .inl (T0 hS hc hd hr λγ' O' a' w' DC=>ZP γ' O' a' w' (DC.iA ha))
end
end Go.Am
end
