/- own -/
import Derived.Test.YtemdbgmldljbpaaDoorMa
import Derived.Lib.MakeNoZero
import Derived.Laws.Externs
import Derived.Laws.BytesString
set_option linter.unusedSimpArgs false
set_option linter.unusedVariables false
namespace Go.Mx
open Go.RowKit
section
variable {T : Type} {C : Cod T} {P : Program} {ops : Array Oper} {K Kn : Act → World → Prop} {a : Act} {w w' : World} {i : Nat} {w0 : World} {X : List Nat} {L R : List Ent}
def Ent.known (C:Cod T) (b n:Nat) (l:List T) (e:TypeId):Ent where
 foot:=fun k=>k=b
 p:=fun w=>∃ vs:List Value,n*C.size≤(encL C l++vs).length∧w.heap[b]? = some (.cells (encL C l++vs).toArray e (0,0))
 loc:=fun _ _ h hp=>by obtain ⟨vs,h1,h2⟩:=hp; exact ⟨vs,h1,(h b rfl).trans h2⟩
theorem Inn.take:∀ {H:List HS}{l:List (List T)}(m:Nat),Inn C w H l→Inn C w (H.take m) (l.take m)∧∀ b,InnFoot C (H.take m) (l.take m) b→InnFoot C H l b
 | [],[],m,_=>by simp only [List.take_nil]; exact ⟨trivial,fun b h=>h⟩
 | [],_::_,_,h=>h.elim
 | _::_,[],_,h=>h.elim
 | _::_,_::_,0,h=>⟨trivial,fun b h=>h.elim⟩
 | _::_,_::_,m+1,h=>⟨⟨h.1,(Inn.take m h.2).1⟩,fun b hb=>hb.elim .inl (fun hb=>.inr ((Inn.take m h.2).2 b hb))⟩
theorem Inn.drop:∀ {H:List HS}{l:List (List T)}(m:Nat),Inn C w H l→Inn C w (H.drop m) (l.drop m)∧∀ b,InnFoot C (H.drop m) (l.drop m) b→InnFoot C H l b
 | [],[],m,_=>by simp only [List.drop_nil]; exact ⟨trivial,fun b h=>h⟩
 | [],_::_,_,h=>h.elim
 | _::_,[],_,h=>h.elim
 | _::_,_::_,0,h=>⟨h,fun b h=>h⟩
 | _::_,_::_,m+1,h=>⟨(Inn.drop m h.2).1,fun b hb=>.inr ((Inn.drop m h.2).2 b hb)⟩
end
end Go.Mx
