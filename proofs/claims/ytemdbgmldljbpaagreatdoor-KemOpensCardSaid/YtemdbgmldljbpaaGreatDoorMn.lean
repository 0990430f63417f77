/- own -/
import Derived.Test.YtemdbgmldljbpaaGreatDoorMk
import Derived.OpenShut
set_option linter.unusedSimpArgs false
set_option linter.unusedVariables false
namespace Go.Mx
open Go.RowKit Go.ChangeShapes Go.WideShapes Go.ChangeAt
theorem open_flat {P:Program}{w:World}{r:Reach}{base:Nat}{t:TypeId}{v:Value}{fs:Array Field}(pk:List (Option IntKind)) (pt:List TypeId) (ht:P.underlying t=some (.struct fs)) (hc:P.cellsOf t=pk.length)
  (hct:P.cellTypes P.depth t=some pt) (hp:pt.length=pk.length) (hpk:∀ (i:Nat) (u:TypeId) (q:Option IntKind),pt[i]? = some u→pk[i]? = some q→typeK P q u)
  (hv:Value.okWide P w r base t v):∃ (pre:List Value),v = .agg pre.toArray∧Fits pk pre:=by
 unfold Value.okWide at hv
 rw [ht] at hv
 obtain ⟨cs,rfl,hs,ts,hts,_,hcells⟩:=hv
 rw [hct] at hts
 obtain rfl:=Option.some.inj hts
 rw [hc] at hs
 have hl:cs.toList.length=pk.length:=by simpa using hs
 refine ⟨cs.toList,rfl,fits_of _ _ hl fun i v q hv hq=>?_⟩
 have h1:=hcells i v (by rw [← Array.getElem?_toList]; exact hv)
 have hlt:=(List.getElem?_eq_some_iff.1 hv).1
 rw [Nat.mod_eq_of_lt (by omega)] at h1
 obtain ⟨u,hu,hok⟩:=h1
 exact cellK_of (hpk i u q hu hq) hok
end Go.Mx
