/- Lemmas -/
import Derived.Test.YtefjamneieebhaaGreatDoorSRL4
set_option linter.unusedVariables false
set_option linter.unusedSimpArgs false
namespace Go.Am
open Go
set_option maxRecDepth 100000
def opI(nm:Ap):QO:=⟨⟨1,nm,[],0,0,false,[],0,0⟩,.slnil,.nil⟩
def opM(m:Int):QO:=⟨⟨16,[],[],0,0,false,[],0,m⟩,.slnil,.nil⟩
def opH(x:Int):QO:=⟨⟨19,[],[],0,x,false,[],0,0⟩,.slnil,.nil⟩
def opR:QO:=⟨⟨11,[],[],0,0,false,[],0,0⟩,.slnil,.nil⟩
theorem opI_mk{nm:Ap}:AK [I 0,S [],.slnil,I 0,I 0,ff,S [],.int .i32 0,I 0] [((0,1),I 1),((1,1),.str nm)]=some (opI nm).row:=rfl
theorem opM_mk{m:Int}:AK [I 0,S [],.slnil,I 0,I 0,ff,S [],.int .i32 0,I 0] [((0,1),I 16),((8,1),I m)]=some (opM m).row:=rfl
theorem opH_mk{m:Int}:AK [I 0,S [],.slnil,I 0,I 0,ff,S [],.int .i32 0,I 0] [((0,1),I 19),((4,1),I m)]=some (opH m).row:=rfl
theorem opR_mk:AK [I 0,S [],.slnil,I 0,I 0,ff,S [],.int .i32 0,I 0] [((0,1),I 11)]=some opR.row:=rfl
theorem op_mk1{r:List Aa}(h:r.length=9):Aw (.Bx 9) [.agg r]=some (.sl 9 [r]):=K4 (a:= .agg r) h (by decide)
set_option maxHeartbeats 4000000 in
theorem ev_resets(s:Ek){av:Aa}(hv:Bw s.Ax av){aEA:List Ap}{nv:Aa}(hn:IH aEA nv)(head:Int){tms:List Int}{tv:Aa}(ht:Dg tms tv):Ev cx 3 [.agg (Lj s av),nv,I head,tv] [] λr _=>r= .bool true:=by
 have bF:AS=140737488355328:=rfl;have r5:=f5 s hv [];have Xd:av.cells=[av]:=AM.cells hv;have ln:=AM.Cp hn;have lt:=AM.Cp ht;unfold Ev;rw[aNB,t3,Lj];by_cases c1:(30:Int)<(aEA.length:Int);·simp only[AB,Bi,ln,c1,Hh];exact⟨_,rfl,rfl⟩
 by_cases c2:(10:Int)<(tms.length:Int);·simp only[AB,Bi,ln,c1,lt,c2,Hh];exact⟨_,rfl,rfl⟩
 by_cases c3:Tf s
 .rw[Az c3] at r5;by_cases X9:∀x∈aEA,x.length<=60
  .simp only[AB,Bi,ln,c1,lt,c2,r5.call];refine Ei (i:=0) (λz:Aa×Nat=>[ff,z.1,I (z.2:Int)]) (λz h=>z.2<=aEA.length/\h=[]/\X2 ((aEA.take z.2).map opI) z.1) (λz=>aEA.length-z.2) (λz h=>h=[]/\X2 (aEA.map opI) z.1) (.slnil,0) rfl ⟨AR _,rfl,.nil⟩ ?_ ?_
   .rintro⟨V,n⟩ h ⟨hk,rfl,hV⟩;simp only at hk hV;have hVc:V.cells=[V]:=AM.cells hV;rcases AT n aEA.length with hlt|D1
    .have e1:=AM.Bz (k:= .i64) hn hlt;rw[CH] at e1;have Wj:¬(60:Int)<(aEA[n].length:Int):=by have:=X9 _ (AI hlt);omega
     have em:=op_mk1 (r:=(opI aEA[n]).row) rfl;have ea:=AM.Jb (b:=104) (a:=opI aEA[n]) hV (by rw[Ai,Al];omega);simp only[AB,↓reduceIte,Bi,ln,show(n:Int)<(aEA.length:Int) by omega,e1,Wj,opI_mk,em,ea,BF (show n<9223372036854775807 by omega)];exact .next (_,n+1) rfl ⟨hlt,rfl,by rw[Av hlt,BH];exact .mk⟩ (by simp only;omega)
    .rw[Ay D1] at hV;simp only[AB,Bi,ln,show¬(n:Int)<(aEA.length:Int) by omega];exact .Hv (V,n) rfl ⟨rfl,hV⟩
   .rintro⟨V0,n⟩ h ⟨rfl,hV0⟩;simp only at hV0;simp only[AB,↓reduceIte];refine Ei (i:=2) (λz:Aa×Nat=>[z.1,I (z.2:Int)]) (λz h=>z.2<=tms.length/\h=[]/\X2 (aEA.map opI++(tms.take z.2).map opM) z.1) (λz=>tms.length-z.2) (λz h=>h=[]/\X2 (aEA.map opI++tms.map opM) z.1) (V0,0) rfl ⟨AR _,rfl,by simpa using hV0⟩ ?_ ?_
    .rintro⟨V,n⟩ h ⟨hk,rfl,hV⟩;simp only at hk hV;have hVc:V.cells=[V]:=AM.cells hV;rcases AT n tms.length with hlt|D1
     .have e1:=AM.Bz (k:= .i64) ht hlt;rw[Cb] at e1;have em:=op_mk1 (r:=(opM tms[n]).row) rfl;have ea:=AM.Jb (b:=104) (a:=opM tms[n]) hV (by rw[As,Ai,Ai,Al];omega);simp only[AB,↓reduceIte,Bi,lt,show(n:Int)<(tms.length:Int) by omega,e1,opM_mk,em,ea,BF (show n<9223372036854775807 by omega)];exact .next (_,n+1) rfl ⟨hlt,rfl,by rw[Av hlt,BH,<-AD];exact .mk⟩ (by simp only;omega)
     .rw[Ay D1] at hV;simp only[AB,Bi,lt,show¬(n:Int)<(tms.length:Int) by omega];exact .Hv (V,n) rfl ⟨rfl,hV⟩
    .rintro⟨V,n⟩ h ⟨rfl,hV⟩;simp only at hV;have em:Aw (.Bx 9) [.agg (opH head).row,.agg opR.row]=some (.sl 9 [(opH head).row,opR.row]):=rfl;obtain⟨U,ea,hU⟩:=AM.YI (b:=104) (l2:=[opH head,opR]) hV (.mk:AM 9 ([opH head,opR].map QO.row) (.sl 9 [(opH head).row,opR.row])) (by simp;omega);replace ea:Aw (.append 9 104) [V,.sl 9 [(opH head).row,opR.row]]=some U:=ea;have hlen:(aEA.map opI++tms.map opM++[opH head,opR]).length<=60:=by simp;omega
     have hq:∀x∈aEA.map opI++tms.map opM++[opH head,opR],uO x.q:=by
      intro x hx;simp only[Ao,Bk,AL,Sy,or_false] at hx;rcases hx with(⟨y,hy,rfl⟩|⟨y,_,rfl⟩)|rfl|rfl
      .exact⟨by have:=X9 y hy;show y.length<=1000;omega,aCA,AR _,show(-2147483648:Int)<=0 by decide,show(0:Int)<=2147483647 by decide⟩
      .exact⟨AR _,aCA,AR _,show(-2147483648:Int)<=0 by decide,show(0:Int)<=2147483647 by decide⟩
      .exact⟨AR _,aCA,AR _,show(-2147483648:Int)<=0 by decide,show(0:Int)<=2147483647 by decide⟩
      .exact⟨AR _,aCA,AR _,show(-2147483648:Int)<=0 by decide,show(0:Int)<=2147483647 by decide⟩
     obtain⟨h1,bi,wi,F,F2,r7,w⟩:=f7w s hv c3.2.qE (by have:=c3.1;omega) hU hlen hq [];obtain⟨a,o,c,t,G,wp,hc,e1⟩:=w.p;obtain⟨a',o',c',t',G',wr,JU,e3⟩:=w.r;have l4:=wp.l4;have l4':=wr.l4;rw[Lj] at r7;simp only[AB,↓reduceIte,Bi,opH_mk,opR_mk,em,ea,r7.call,l4,l4',Cn,Hh,D4];exact⟨_,rfl,rfl⟩
  .simp only[AB,Bi,ln,c1,lt,c2,r5.call];refine Bb (λz:Aa×Nat=>[ff,z.1,I (z.2:Int)]) (λz h=>z.2<=aEA.length/\(∀x∈aEA.take z.2,x.length<=60)/\X2 ((aEA.take z.2).map opI) z.1) (λz=>aEA.length-z.2) (.slnil,0) rfl ⟨AR _,by simp,.nil⟩ ?_;rintro⟨V,n⟩ h ⟨hk,hT,hV⟩;simp only at hk hT hV;have hVc:V.cells=[V]:=AM.cells hV;rcases AT n aEA.length with hlt|D1
   .have e1:=AM.Bz (k:= .i64) hn hlt;rw[CH] at e1;by_cases Wj:(60:Int)<(aEA[n].length:Int);·simp only[AB,Bi,ln,show(n:Int)<(aEA.length:Int) by omega,e1,Wj,Hh];try exact⟨_,rfl,rfl⟩
    .have em:=op_mk1 (r:=(opI aEA[n]).row) rfl;have ea:=AM.Jb (b:=104) (a:=opI aEA[n]) hV (by rw[Ai,Al];omega);simp only[AB,↓reduceIte,Bi,ln,show(n:Int)<(aEA.length:Int) by omega,e1,Wj,opI_mk,em,ea,BF (show n<9223372036854775807 by omega)];refine AF.next (_,n+1) rfl ⟨hlt,?_,by rw[Av hlt,BH];exact .mk⟩ (by simp only;omega);intro x hx;rw[Av hlt,Ao,Fi] at hx;rcases hx with hx|rfl
     .exact hT x hx
     .omega
   .rw[Ay D1] at hT;exact absurd hT X9
 .rw[AA c3] at r5;simp only[AB,Bi,ln,c1,lt,c2,r5.call,Hh];exact⟨_,rfl,rfl⟩
theorem has_str1(r:List Aa)(h:Yq .str r):∃n:Ap,r=CH n/\True:=by obtain⟨n,rfl⟩:=O4 h;exact⟨n,rfl,trivial⟩
theorem has_int1(r:List Aa)(h:Yq (.int .i64) r):∃n:Int,r=Cb n/\True:=by obtain⟨n,rfl,_⟩:=LM h;exact⟨n,rfl,trivial⟩
theorem all_resets:∀l,ON [L4,.sl .str,.int .i64,.sl (.int .i64)] l->Ev cx 3 l [] λr _=>r= .bool true:=by
 rintro _ ⟨a,_,rfl,ha,b,_,rfl,hb,c,_,rfl,hc,d,_,rfl,hd,rfl⟩;obtain⟨s,av,rfl,hv⟩:=Ql ha;have hb:Yq (.sl .str) [b]:=hb;obtain⟨aEA,h1,_,_⟩:=kI has_str1 hb;obtain⟨n,e,_⟩:=LM (r:=[c]) hc;obtain rfl:c= I n:=by simpa using e
 have hd:Yq (.sl (.int .i64)) [d]:=hd;obtain⟨tms,h2,_,_⟩:=kI has_int1 hd;exact ev_resets s hv h1 n h2
end Go.Am
