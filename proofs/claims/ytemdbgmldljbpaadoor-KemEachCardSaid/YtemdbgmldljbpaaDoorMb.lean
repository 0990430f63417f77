/- own -/
import Derived.Test.YtemdbgmldljbpaaDoorMw
import Derived.Test.YtemdbgmldljbpaaDoorMt
set_option linter.unusedSimpArgs false
set_option linter.unusedVariables false
namespace Go.Mx
open Go
def Byt (l:List Int):Prop:=∀ x∈l,0≤x∧x≤255
def NB:List Int→Nat
 | []=>0
 | x::l=>x.toNat+256*NB l
theorem Byt.nil:Byt []:=fun _ h=>(by cases h)
theorem Byt.cons {x:Int}{l:List Int}(h0:0≤x) (h1:x≤255) (h:Byt l):Byt (x::l):=fun y hy=>by
 rcases List.mem_cons.1 hy with rfl | hy
 ·exact ⟨h0,h1⟩
 ·exact h y hy
theorem Byt.append {a b:List Int}(ha:Byt a) (hb:Byt b):Byt (a++b):=fun x hx=>(List.mem_append.1 hx).elim (ha x) (hb x)
theorem Byt.tail {x:Int}{l:List Int}(h:Byt (x::l)):Byt l:=fun y hy=>h y (List.mem_cons_of_mem _ hy)
theorem Byt.head {x:Int}{l:List Int}(h:Byt (x::l)):0≤x∧x≤255:=h x List.mem_cons_self
theorem two_mul8 (j:Nat):256^j=2^(8*j):=by rw [Nat.pow_mul]
def ND (d:Nat):List Nat→Nat
 | []=>0
 | x::l=>x%2^d+2^d*ND d l
theorem ND_append (d:Nat) (a b:List Nat):ND d (a++b)=ND d a+2^(d*a.length)*ND d b:=by
 induction a with
 | nil=>simp [ND]
 | cons x a ih=>
  show x%2^d+2^d*ND d (a++b)=x%2^d+2^d*ND d a+2^(d*(a.length+1))*ND d b
  rw [ih,Nat.mul_add d,Nat.pow_add,Nat.mul_one,Nat.mul_add,Nat.mul_comm (2^(d*a.length)) (2^d),Nat.mul_assoc]
  omega
theorem ND_lt (d:Nat) (l:List Nat):ND d l<2^(d*l.length):=by
 induction l with
 | nil=>simp [ND]
 | cons x l ih=>
  show x%2^d+2^d*ND d l<2^(d*(l.length+1))
  rw [Nat.mul_add,Nat.mul_one,Nat.pow_add]
  have h1:=Nat.mod_lt x (Nat.two_pow_pos d)
  have h2:ND d l+1≤2^(d*l.length):=ih
  have h3:=Nat.mul_le_mul_left (2^d) h2
  rw [Nat.mul_add,Nat.mul_one] at h3
  rw [Nat.mul_comm (2^(d*l.length))]
  omega
theorem or_parts {x h n:Nat}(hx:x<2^h):x ||| n*2^h=x+n*2^h:=by
 have:=Nat.shiftLeft_add_eq_or_of_lt hx n
 rw [Nat.shiftLeft_eq] at this
 rw [Nat.or_comm,← this,Nat.add_comm]
end Go.Mx
