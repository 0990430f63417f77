/- own -/
import Derived.Test.YtemdbgmldljbpaaGreatDoorBF0
import Derived.Test.YtemdbgmldljbpaaGreatDoorBFKemWorks
import Derived.Test.YtemdbgmldljbpaaGreatDoorBFKemOpens
import Derived.Test.YtemdbgmldljbpaaGreatDoorTd
import Derived.Test.YtemdbgmldljbpaaGreatDoorGb
set_option linter.unusedSimpArgs false
set_option linter.unusedVariables false
set_option maxRecDepth 100000
namespace Go.Proofs.YtemdbgmldljbpaaGreatDoor
open Go Go.Mx
section
variable {S R X : Type}
def run (st:S→Int→S ⊕ R):S→List Int→S ⊕ R
 | s,[]=>.inl s
 | s,b::l=>match st s b with
  | .inl s'=>run st s' l
  | .inr r=>.inr r
theorem sqv_len (kind:Int) (s:Arr 25 × Nat) (o:Bool) (n:Int):(sqV kind s o n).1.length=n.toNat:=by
 unfold sqV
 by_cases h:n<0
 ·rw [if_pos h]; show 0=_; omega
 ·rw [if_neg h]; exact sq_len _ _ _
theorem sqv_byt (kind:Int) (s:Arr 25 × Nat) (o:Bool) (n:Int):Byt (sqV kind s o n).1:=by
 unfold sqV
 by_cases h:n<0
 ·rw [if_pos h]; exact Byt.nil
 ·rw [if_neg h]; exact sq_byt _ _ _
theorem sq_add (r:Nat):∀ (n m:Nat) (s:Arr 25 × Nat),sq r (n+m) s=((sq r n s).1++(sq r m (sq r n s).2).1,(sq r m (sq r n s).2).2)
 | 0,m,s=>by
  rw [Nat.zero_add]
  rfl
 | n+1,m,s=>by
  rw [show n+1+m=(n+m)+1 by omega]
  show (byteS (nrm r s)::(sq r (n+m) (nxt (nrm r s))).1,(sq r (n+m) (nxt (nrm r s))).2)=_
  rw [sq_add r n m]
  rfl
theorem sqv_add (kind:Int) (s:Arr 25 × Nat) (o:Bool) {n m:Int}(hn:0≤n) (hm:0≤m):(sqV kind s o (n+m)).1=(sqV kind s o n).1++(sqV kind (sqV kind s o n).2.1 (sqV kind s o n).2.2 m).1:=by
 unfold sqV
 rw [if_neg (by omega),if_neg (by omega),if_neg (by omega),show (n+m).toNat=n.toNat+m.toNat by omega,sq_add]
 rfl
theorem sqv_take (kind:Int) (s:Arr 25 × Nat) (o:Bool) {n m:Int}(hn:0≤n) (hm:n≤m):(sqV kind s o m).1=(sqV kind s o n).1++(sqV kind (sqV kind s o n).2.1 (sqV kind s o n).2.2 (m-n)).1:=by
 have:=sqv_add kind s o hn (show 0≤m-n by omega)
 rw [show n+(m-n)=m by omega] at this
 exact this
theorem sqv_nil (kind:Int) (s:Arr 25 × Nat) (o:Bool) {n:Int}(h:n≤0):(sqV kind s o n).1=[]:=List.eq_nil_of_length_eq_zero (by rw [sqv_len]; omega)
end
def fillP:Arr 256 × Nat→List Int→Arr 256 × Nat
 | p,[]=>p
 | p,x::l=>if p.2<256 then fillP (wr p.1 (p.2:Int) x,p.2+1) l else p
theorem fillP_full {p:Arr 256 × Nat}(h:¬ p.2<256):∀ l,fillP p l=p
 | []=>rfl
 | x::l=>by
  show (if p.2<256 then _ else p)=p
  rw [if_neg h]
theorem fillP_app:∀ (a:List Int) (p:Arr 256 × Nat) (b:List Int),fillP p (a++b)=fillP (fillP p a) b
 | [],_,_=>rfl
 | x::a,p,b=>by
  show (if p.2<256 then fillP _ (a++b) else p)=fillP (if p.2<256 then fillP _ a else p) b
  by_cases h:p.2<256
  ·rw [if_pos h,if_pos h,fillP_app a _ b]
  ·rw [if_neg h,if_neg h,fillP_full h]
theorem sum_eq (kind:Int) (hk:rateN kind≠0) {b:List Int}(hb:b.length≤900) {n:Int}(h0:0≤n) (h1:n≤14000):ref08_Sum.f 60000 kind b n=some ((sqV kind (absV kind (zeroA 25,0) false b) false n).1,0):=by
 rw [rSum kind b (by omega) n (by omega)]
 unfold sumV
 rw [if_neg hk,if_neg (by omega),if_neg (by omega)]
end Go.Proofs.YtemdbgmldljbpaaGreatDoor
