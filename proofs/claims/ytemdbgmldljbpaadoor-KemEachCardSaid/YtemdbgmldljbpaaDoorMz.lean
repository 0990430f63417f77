/- own -/
import Derived.Test.YtemdbgmldljbpaaDoorMq
set_option linter.unusedSimpArgs false
set_option linter.unusedVariables false
namespace Go.Mx
open Go
def sm:Nat→(Nat→Int)→Int
 | 0,_=>0
 | n+1,f=>sm n f+f n
def Cg (M x y:Int):Prop:=∃ k,x=y+M*k
section
variable {M x y z u v : Int}
theorem Cg.refl (x:Int):Cg M x x:=⟨0,by simp⟩
theorem Cg.symm (h:Cg M x y):Cg M y x:=by
 obtain ⟨k,rfl⟩:=h
 exact ⟨-k,by grind⟩
theorem Cg.trans (h:Cg M x y) (h2:Cg M y z):Cg M x z:=by
 obtain ⟨k,rfl⟩:=h
 obtain ⟨l,rfl⟩:=h2
 exact ⟨l+k,by grind⟩
theorem Cg.add (h:Cg M x y) (h2:Cg M u v):Cg M (x+u) (y+v):=by
 obtain ⟨k,rfl⟩:=h
 obtain ⟨l,rfl⟩:=h2
 exact ⟨l+k,by grind⟩
theorem Cg.sub (h:Cg M x y) (h2:Cg M u v):Cg M (x-u) (y-v):=by
 obtain ⟨k,rfl⟩:=h
 obtain ⟨l,rfl⟩:=h2
 exact ⟨k-l,by grind⟩
theorem Cg.mod (M x:Int):Cg M (x%M) x:=⟨-(x/M),by have:=Int.emod_add_mul_ediv x M; grind⟩
theorem Cg.of (h:x%M=y%M):Cg M x y:=(Cg.mod M x).symm.trans (h ▸ Cg.mod M y)
end
section
variable {M : Int} {A r g ρ ι V V' W W' : Nat → Int} {n s N : Nat}
end
end Go.Mx
