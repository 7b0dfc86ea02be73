/- Lemmas -/
import Derived.Test.YtmfdhadocnndiaaGreatDoorS26
set_option linter.all false
namespace Go.Am
open Go
set_option maxRecDepth 100000
section
variable{b:BS}{l:List Item}{x:Item}{p q:Item->Bool}{n:Int}{nm:Au}
def Bg(x:Item)(l:List Item):Prop:=l.head?=some x
def Bg.Ja(h:Bg x l){m:List Item}:Bg x (l++m):=by
 cases l with
 |nil=>cases h
 |cons y l=>exact h
def Bg.take(h:Bg x l){k:Nat}(hk:1<=k):Bg x (l.take k):=by
 cases l with
 |nil=>cases h
 |cons y l=>obtain⟨k,rfl⟩:∃j,k=j+1:=⟨k-1,Ab⟩;exact h
def Bg.drop(h:Bg x l){k:Nat}(hk:1<=k):Bg x (Bm l k):=by unfold Bm;exact(h.take hk).Ja
def Bg.set(h:Bg x l){k:Nat}(hk:1<=k){y:Item}:Bg x (l.set k y):=by
 cases l with
 |nil=>cases h
 |cons z l=>obtain⟨k,rfl⟩:∃j,k=j+1:=⟨k-1,Ab⟩;exact h
def Uz:∀l:List Item,(MK p q l).getLast?=l.getLast?
 |[]=>rfl
 |[x]=>rfl
 |x::y::r=>by
  unfold MK;split;.rfl
  .split;.rw[mh]
   .rw[Uz (y::r),mh]
def Bg.D9(h:Bg x l):Bg x (D9 p q l):=by unfold Bg Go.Am.D9 at*;rw[List.head?_reverse,Uz,List.getLast?_reverse];exact h
def Bg.Dg(h:Bg x l):Bg x (Dg n l):=by
 unfold Go.Am.Dg;split;.exact h
 .exact h.drop Ab
def Bg.EV(h:Bg x b.AV){at_:List A0}{sp:Int}:Bg x (b.EV nm at_ sp).AV:=by
 unfold BS.EV;split;.rename_i hs;show Bg x ((b.E1 nm at_ sp _).AV++_);unfold BS.E1;rw[Ad hs];exact h.Ja
 .exact h
def Bg.FM(h:Bg x l):Bg x (FM n l):=by unfold Go.Am.FM;first|exact h.D9|(split<;>first|exact h|exact h.D9)
def Bg.Dx(h:Bg x b.AV):Bg x (b.Dx nm).AV:=by
 unfold BS.Dx;split
 .split;.exact h.D9.FM
  .exact h
 .exact h
def Bg.UE(h:Bg x b.AV):Bg x b.UE.AV:=by
 unfold BS.UE;split;.exact h
 .exact h.take Ab
def Bg.JB:∀{es:List Cv} {b:BS},Bg x b.AV->Bg x (BS.JB es b).2.AV
 |[],_,h=>h
 |e::es,b,h=>Bg.JB (es:=es) (b:=b.EV e.name e.AE 1) h.EV
def Bg.Gj(h:Bg x b.AV){blk anc:Int}{far i:Nat}{l:Int}{m:Nat}(hi:1<=i):Bg x (BS.Gj blk anc far i b l m).1.AV:=by
 unfold BS.Gj;simp only
 split;.exact h.drop hi
 .split;.exact h.drop hi
  .show Bg x ((b.E1 _ _ 1 anc).AV.set i _);unfold BS.E1;split;.exact h.set hi
   .exact h.set hi
def Bg.Lq{blk anc:Int}{far k:Nat}:∀{c:Nat} {s:BS×Int×Nat},Bg x s.1.AV->Bg x (BS.Lq blk anc far k c s).1.AV
 |0,_,h=>h
 |c+1,s,h=>Bg.Lq (c:=c) (h.Gj Ab)
def Bg.len(h:Bg x l):1<=l.length:=by
 cases l with
 |nil=>cases h
 |cons y l=>simp
def mC{at_:List A0}{sp p:Int}:(b.E1 nm at_ sp p).AV=b.AV:=by unfold BS.E1;split<;>rfl
def Bg.Hd{fe:Cv}{blk anc:Int}{s:BS×Int×Nat}(h:Bg x s.1.AV):Bg x (BS.Hd fe blk anc s).AV:=by unfold BS.Hd;simp only[mC];have h1:Bg x (Go.Am.Dg fe.node s.1.AV):=h.Dg;have h2:=h1.len;exact(h1.take (by unfold GI;omega)).Ja
def Bg.round(h:Bg x b.AV):Bg x (b.round nm).2.AV:=by
 unfold BS.round;simp only
 split;.exact h.Dx
 split;.exact h
 split;.exact h
 split;.exact h.FM
 .exact(Bg.Lq (s:=(b,_,_)) h).Hd
def Bg.E2:∀{n:Nat} {b:BS},Bg x b.AV->Bg x (BS.E2 n b nm).AV
 |0,_,h=>h
 |n+1,b,h=>by
  unfold BS.E2;simp only
  split;.exact Bg.E2 h.round
  .exact h.round
def Bg.H9(h:Bg x b.AV):Bg x (b.H9 nm).AV:=by
 unfold BS.H9;split;.exact h.UE
 .exact h.E2
def Bg.Dm(h:Bg x b.AV):Bg x b.Dm.AV:=by
 unfold BS.Dm;split;.exact h
 .exact h.D9.D9
def Bg.Jd(h:Bg x b.AV):Bg x b.Jd.AV:=by
 unfold BS.Jd;split;.exact h.D9.D9
 .exact h
def Bg.Io(h:Bg x b.AV){at_:List A0}{k:Int}:Bg x (b.Io at_ k).AV:=by unfold BS.Io;split<;>exact h
def Bg.do(h:Bg x b.AV)(q:l8):Bg x (aU b q).1.AV:=
 Uv (P:=λr=>Bg x r.1.AV) h.EV h.EV (Bg.EV (b:=b) (at_:=q.AE) (sp:=1) h) h h (Bg.EV (b:=b) (at_:=q.AE) (sp:=1) h) h.Jd (Bg.JB h) h.Dx h.H9 h h.Io h.Dm h h h h h.UE h h h h.D9 h (by show Bg x (b.E1 _ _ _ _).AV;rw[mC];exact h) h
end
end Go.Am
