/- own -/
import Derived.Test.YtemdbgmldljbpaaDoorMp
import Derived.Test.YtemdbgmldljbpaaDoorMg
import Derived.Lib.LaidTab
import Derived.LaidMore
import Derived.MakeChecks
import Derived.Stop.LaidErr
import Derived.SizedLaws
import Derived.ChangeSlices
set_option linter.unusedSimpArgs false
set_option linter.unusedVariables false
namespace Go.Mx
open Go.RowKit Go.ChangeShapes Go.WideShapes Go.ChangeAt
theorem tab_row {P:Program}{W:World}{name:String}{g n:Nat}{k:IntKind}{tab:Arr n}(h:0<n) (hT:Go.Lib.TabIs P W name k tab.toList) (hg:P.globalNamed name=some g):RowL (CA k n h) W (some ⟨g,0,none⟩) 1 1 [tab]:=by
 unfold Go.Lib.TabIs World.var? at hT
 rw [hg] at hT
 simp only [Option.bind_some] at hT
 split at hT
 ·rename_i cs T fz hh
  obtain rfl:=Option.some.inj hT
  refine ⟨?_,⟨Nat.le_refl _,fun h=>by cases h⟩,.inr ⟨g,0,_,T,fz,rfl,hh,fun j u hj=>?_⟩⟩
  ·rw [encL_len]; rfl
  ·rw [Nat.zero_add,List.getElem?_toArray]
   have:encL (CA k n h) [tab]=enc k tab++[]:=rfl
   rw [this,List.append_nil] at hj
   exact hj
 ·cases hT
end Go.Mx
