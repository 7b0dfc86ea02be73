/- Lemmas -/
import Derived.Test.YtjjnhgoknielgaaGreatDoorW26
import Derived.Test.YtjjnhgoknielgaaGreatDoorW30
set_option linter.all false
namespace Go.Am
open Go
set_option maxRecDepth 100000
abbrev aWR:Ty:= .st [.int .i64,.str,.bool,.str,.bool,.str,.bool,.bool,.sl aLt,.bool,.str,.int .i32]
structure aRp(p:Dr×Ab):Prop where
 v:BF p.1.As p.2
 r: -2147483648<=p.1.r/\p.1.r<=2147483647
 n:p.1.As.length<=maxLen
def saB(l:List Bj):Bool:=decide (Ml l)
section
variable{t:Dr}{p:Dr×Ab}{l:List (Dr×Ab)}{v:Ab}
def Ŝ(h:t.qQ saB=true)(hr: -2147483648<=t.r/\t.r<=2147483647):t.Sm:=by unfold Dr.qQ at h;simp only[Bg,CF] at h;exact⟨Ac,(CC (p:=Ml t.As) h.2.2.2.2).qQ,Ac,hr⟩
def nu:Ep (Ih false):=
 ⟨⟨ll false,(λe he=>by cases he),λh=>absurd rfl h,rfl,rfl,(λm hm=>by cases hm)⟩,λh=>absurd (show(4:Int)<=1 from h) Az,λ_=> .inl ⟨.inl rfl,rfl,rfl⟩,λh=>absurd (show(1:Int)=8 from h) Az⟩
end
end Go.Am
