/- Lemmas -/
import Derived.Test.YtjboelmdplaenaaGreatDoorQ19
import Derived.Test.YtjboelmdplaenaaGreatDoorQ20
import Derived.Test.YtjboelmdplaenaaGreatDoorQ21
set_option linter.unusedVariables false
set_option linter.unusedSimpArgs false
namespace Go.Am
open Go
theorem prim_ok:PrimOk cx:=by
 refine⟨λf hf=>?_,λf p hp n hs args h r h' hrun=>?_⟩
 ·simp only[cx,hIns] at hf;split at hf
  ·exact InsOk_170
  ·cases hf
 ·simp only[cx,hPrim] at hp;split at hp
  ·cases hp;exact prim34 n hs args r h' hrun
  ·cases hp;exact prim628 n args r h' hrun
  ·cases hp;exact prim559 n hs args r h' hrun
  ·cases hp;exact prim168 n args r h' hrun
  ·cases hp;exact prim654 n hs args r h' hrun
  ·cases hp;exact prim224 n hs args r h' hrun
  ·cases hp;exact prim381 n args r h' hrun
  ·cases hp;exact prim376 n args r h' hrun
  ·cases hp
end Go.Am
