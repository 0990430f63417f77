/- own -/
import Derived.Test.YtemdbgmldljbpaaGreatDoorMw
import Derived.Test.YtemdbgmldljbpaaGreatDoorMt
set_option linter.unusedSimpArgs false
set_option linter.unusedVariables false
namespace Go.Mx
open Go
def Byt (l:List Int):Prop:=∀ x∈l,0≤x∧x≤255
def NB:List Int→Nat
 | []=>0
 | x::l=>x.toNat+256*NB l
theorem Byt.nil:Byt []:=fun _ h=>(by cases h)
theorem Byt.cons {x:Int}{l:List Int}(h0:0≤x) (h1:x≤255) (h:Byt l):Byt (x::l):=fun y hy=>by
 rcases List.mem_cons.1 hy with rfl | hy
 ·exact ⟨h0,h1⟩
 ·exact h y hy
theorem Byt.append {a b:List Int}(ha:Byt a) (hb:Byt b):Byt (a++b):=fun x hx=>(List.mem_append.1 hx).elim (ha x) (hb x)
theorem Byt.tail {x:Int}{l:List Int}(h:Byt (x::l)):Byt l:=fun y hy=>h y (List.mem_cons_of_mem _ hy)
theorem Byt.head {x:Int}{l:List Int}(h:Byt (x::l)):0≤x∧x≤255:=h x List.mem_cons_self
theorem NB_inj:∀ {a b:List Int},Byt a→Byt b→a.length=b.length→NB a=NB b→a=b
 | [],[],_,_,_,_=>rfl
 | [],_::_,_,_,h,_=>by simp at h
 | _::_,[],_,_,h,_=>by simp at h
 | x::a,y::b,ha,hb,hl,hn=>by
  have hx:=ha.head
  have hy:=hb.head
  have hn':x.toNat+256*NB a=y.toNat+256*NB b:=hn
  have e1:x=y:=by omega
  have e2:NB a=NB b:=by omega
  rw [e1,NB_inj ha.tail hb.tail (by simpa using hl) e2]
theorem NB_at {l:List Int}(h:Byt l) (j:Nat) (hj:j<l.length):l.getD j 0=((NB l/256^j%256:Nat):Int):=by
 induction l generalizing j with
 | nil=>cases hj
 | cons x l ih=>
  have hx:=h.head
  show (x::l).getD j 0=(((x.toNat+256*NB l)/256^j%256:Nat):Int)
  cases j with
  | zero=>simp only [List.getD_cons_zero,Nat.pow_zero,Nat.div_one]; omega
  | succ j=>
   simp only [List.length_cons] at hj
   rw [List.getD_cons_succ,ih h.tail j (by omega),Nat.pow_succ,Nat.mul_comm (256^j) 256,← Nat.div_div_eq_div_mul,show (x.toNat+256*NB l)/256=NB l by omega]
theorem two_mul8 (j:Nat):256^j=2^(8*j):=by rw [Nat.pow_mul]
theorem NB_bit {l:List Int}(h:Byt l) (t:Nat) (hj:t/8<l.length):(l.getD (t/8) 0).toNat/2^(t%8)%2=NB l/2^t%2:=by
 rw [NB_at h _ hj,Int.toNat_natCast,two_mul8]
 have e:NB l/2^t=NB l/2^(8*(t/8))/2^(t%8):=by
  rw [Nat.div_div_eq_div_mul,← Nat.pow_add,show 8*(t/8)+t%8=t by omega]
 rw [e]
 generalize NB l/2^(8*(t/8))=m
 have h8:t%8<8:=by omega
 generalize t%8=r at h8
 rw [show (256:Nat)=2^(8-r)*2^r by rw [← Nat.pow_add,show 8-r+r=8 by omega]]
 rw [Nat.mul_comm,Nat.mod_mul_right_div_self]
 obtain ⟨s,hs⟩ : ∃ s,8-r=s+1:=⟨7-r,by omega⟩
 rw [hs,Nat.pow_succ,Nat.mul_comm (2^s) 2,Nat.mod_mul_right_mod]
def ND (d:Nat):List Nat→Nat
 | []=>0
 | x::l=>x%2^d+2^d*ND d l
theorem ND_append (d:Nat) (a b:List Nat):ND d (a++b)=ND d a+2^(d*a.length)*ND d b:=by
 induction a with
 | nil=>simp [ND]
 | cons x a ih=>
  show x%2^d+2^d*ND d (a++b)=x%2^d+2^d*ND d a+2^(d*(a.length+1))*ND d b
  rw [ih,Nat.mul_add d,Nat.pow_add,Nat.mul_one,Nat.mul_add,Nat.mul_comm (2^(d*a.length)) (2^d),Nat.mul_assoc]
  omega
theorem ND_lt (d:Nat) (l:List Nat):ND d l<2^(d*l.length):=by
 induction l with
 | nil=>simp [ND]
 | cons x l ih=>
  show x%2^d+2^d*ND d l<2^(d*(l.length+1))
  rw [Nat.mul_add,Nat.mul_one,Nat.pow_add]
  have h1:=Nat.mod_lt x (Nat.two_pow_pos d)
  have h2:ND d l+1≤2^(d*l.length):=ih
  have h3:=Nat.mul_le_mul_left (2^d) h2
  rw [Nat.mul_add,Nat.mul_one] at h3
  rw [Nat.mul_comm (2^(d*l.length))]
  omega
theorem or_parts {x h n:Nat}(hx:x<2^h):x ||| n*2^h=x+n*2^h:=by
 have:=Nat.shiftLeft_add_eq_or_of_lt hx n
 rw [Nat.shiftLeft_eq] at this
 rw [Nat.or_comm,← this,Nat.add_comm]
end Go.Mx
