/- own -/
import Derived.Test.YtemdbgmldljbpaaGreatDoorMq
set_option linter.unusedSimpArgs false
set_option linter.unusedVariables false
namespace Go.Mx
open Go
def sm:Nat→(Nat→Int)→Int
 | 0,_=>0
 | n+1,f=>sm n f+f n
theorem sm_congr {n:Nat}{f g:Nat→Int}(h:∀ i,i<n→f i=g i):sm n f=sm n g:=by
 induction n with
 | zero=>rfl
 | succ n ih=>simp only [sm]; rw [ih fun i hi=>h i (by omega),h n (by omega)]
theorem sm_mul (n:Nat) (c:Int) (f:Nat→Int):sm n (fun i=>c*f i)=c*sm n f:=by
 induction n with
 | zero=>simp [sm]
 | succ n ih=>simp only [sm]; rw [ih,Int.mul_add]
theorem sm_two (n:Nat) (f:Nat→Int):sm (2*n) f=sm n (fun i=>f (2*i))+sm n (fun i=>f (2*i+1)):=by
 induction n with
 | zero=>rfl
 | succ n ih=>
  rw [show 2*(n+1)=2*n+1+1 by omega]
  simp only [sm]
  rw [ih]; omega
theorem sm_app (n m:Nat) (f:Nat→Int):sm (n+m) f=sm n f+sm m (fun i=>f (n+i)):=by
 induction m with
 | zero=>simp [sm]
 | succ m ih=>
  rw [show n+(m+1)=(n+m)+1 by omega]
  simp only [sm]
  rw [ih]; omega
def Cg (M x y:Int):Prop:=∃ k,x=y+M*k
section
variable {M x y z u v : Int}
theorem Cg.refl (x:Int):Cg M x x:=⟨0,by simp⟩
theorem Cg.of_eq (h:x=y):Cg M x y:=h ▸ .refl x
theorem Cg.symm (h:Cg M x y):Cg M y x:=by
 obtain ⟨k,rfl⟩:=h
 exact ⟨-k,by grind⟩
theorem Cg.trans (h:Cg M x y) (h2:Cg M y z):Cg M x z:=by
 obtain ⟨k,rfl⟩:=h
 obtain ⟨l,rfl⟩:=h2
 exact ⟨l+k,by grind⟩
theorem Cg.add (h:Cg M x y) (h2:Cg M u v):Cg M (x+u) (y+v):=by
 obtain ⟨k,rfl⟩:=h
 obtain ⟨l,rfl⟩:=h2
 exact ⟨l+k,by grind⟩
theorem Cg.sub (h:Cg M x y) (h2:Cg M u v):Cg M (x-u) (y-v):=by
 obtain ⟨k,rfl⟩:=h
 obtain ⟨l,rfl⟩:=h2
 exact ⟨k-l,by grind⟩
theorem Cg.neg (h:Cg M x y):Cg M (-x) (-y):=by
 obtain ⟨k,rfl⟩:=h
 exact ⟨-k,by grind⟩
theorem Cg.mul (h:Cg M x y) (h2:Cg M u v):Cg M (x*u) (y*v):=by
 obtain ⟨k,rfl⟩:=h
 obtain ⟨l,rfl⟩:=h2
 exact ⟨k*v+y*l+M*k*l,by grind⟩
theorem Cg.pow (h:Cg M x y) (n:Nat):Cg M (x^n) (y^n):=by
 induction n with
 | zero=>rw [Int.pow_zero,Int.pow_zero]; exact .refl _
 | succ n ih=>rw [Int.pow_succ,Int.pow_succ]; exact ih.mul h
theorem Cg.mod (M x:Int):Cg M (x%M) x:=⟨-(x/M),by have:=Int.emod_add_mul_ediv x M; grind⟩
theorem Cg.eq (h:Cg M x y):x%M=y%M:=by
 obtain ⟨k,rfl⟩:=h
 exact Int.add_mul_emod_self_left y M k
theorem Cg.of (h:x%M=y%M):Cg M x y:=(Cg.mod M x).symm.trans (h ▸ Cg.mod M y)
theorem Cg.fit (h:Cg M x y) (x0:0≤x) (x1:x<M) (y0:0≤y) (y1:y<M):x=y:=by
 have:=h.eq
 rwa [Int.emod_eq_of_lt x0 x1,Int.emod_eq_of_lt y0 y1] at this
theorem sm_cg {n:Nat}{f g:Nat→Int}(h:∀ i,i<n→Cg M (f i) (g i)):Cg M (sm n f) (sm n g):=by
 induction n with
 | zero=>exact .refl _
 | succ n ih=>simp only [sm]; exact (ih fun i hi=>h i (by omega)).add (h n (by omega))
end
section
variable {M : Int} {A r g ρ ι V V' W W' : Nat → Int} {n s N : Nat}
def FwdL (M:Int) (n s:Nat) (r V V':Nat→Int):Prop:=∀ b i,b<n→i<s →
 Cg M (V' (b*(2*s)+i)) (V (b*(2*s)+i)+r (n+b)*V (b*(2*s)+(s+i)))∧
 Cg M (V' (b*(2*s)+(s+i))) (V (b*(2*s)+i)-r (n+b)*V (b*(2*s)+(s+i)))
def BwdL (M:Int) (n s:Nat) (g V V':Nat→Int):Prop:=∀ b i,b<n→i<s →
 Cg M (V' (b*(2*s)+i)) (V (b*(2*s)+i)+V (b*(2*s)+(s+i)))∧
 Cg M (V' (b*(2*s)+(s+i))) (g (n+b)*(V (b*(2*s)+i)-V (b*(2*s)+(s+i))))
def InvF (M:Int) (A ρ:Nat→Int) (n w:Nat) (V:Nat→Int):Prop:=∀ b i,b<n→i<w→Cg M (V (b*w+i)) (sm n fun t=>A (t*w+i)*ρ (n+b)^t)
def InvB (M:Int) (A ι:Nat→Int) (N n w:Nat) (V:Nat→Int):Prop:=∀ b i,b<n→i<w→Cg M (V (b*w+i)) (sm w fun j=>A (b*w+j)*ι (N+(b*w+j))^i)
theorem invF_start (A ρ:Nat→Int) (w:Nat):InvF M A ρ 1 w A:=fun b i hb hi=>by
 obtain rfl:b=0:=by omega
 simp only [sm,Nat.zero_mul,Nat.zero_add,Int.pow_zero,Int.mul_one,Int.zero_add]
 exact .refl _
theorem invB_start (A ι:Nat→Int) (N n:Nat):InvB M A ι N n 1 A:=fun b i hb hi=>by
 obtain rfl:i=0:=by omega
 simp only [sm,Nat.add_zero,Int.pow_zero,Int.mul_one,Int.zero_add]
 exact .refl _
theorem pow_two_mul (x:Int) (t:Nat):x^(2*t)=(x^2)^t:=by rw [Int.pow_mul]
theorem fwd_step (h:InvF M A ρ n (2*s) V) (hl:FwdL M n s r V V') (h2:∀ b,b<n→Cg M (r (n+b)^2) (ρ (n+b)))
  (hρ:∀ b,b<n→Cg M (ρ (2*(n+b))) (r (n+b))∧Cg M (ρ (2*(n+b)+1)) (- r (n+b))):InvF M A ρ (2*n) s V':=by
 intro b' i hb' hi
 have key:∀ (b:Nat) (z:Int),b<n→Cg M (z^2) (ρ (n+b)) →
   Cg M (sm (2*n) fun t=>A (t*s+i)*z^t) (V (b*(2*s)+i)+z*V (b*(2*s)+(s+i))):=by
  intro b z hb hz
  rw [sm_two]
  refine Cg.add ?_ ?_
  ·refine Cg.trans (sm_cg fun t _=>?_) (h b i hb (by omega)).symm
   rw [show 2*t*s+i=t*(2*s)+i by rw [Nat.mul_comm 2 t,Nat.mul_assoc],pow_two_mul]
   exact (Cg.refl _).mul (hz.pow t)
  ·refine Cg.trans ?_ ((Cg.refl z).mul (h b (s+i) hb (by omega)).symm)
   rw [← sm_mul]
   refine sm_cg fun t _=>?_
   rw [show (2*t+1)*s+i=t*(2*s)+(s+i) by rw [Nat.add_mul,Nat.mul_comm 2 t,Nat.mul_assoc]; omega,Int.pow_succ,pow_two_mul,
    show A (t*(2*s)+(s+i))*((z^2)^t*z)=z*(A (t*(2*s)+(s+i))*(z^2)^t) by grind]
   exact (Cg.refl z).mul ((Cg.refl _).mul (hz.pow t))
 obtain ⟨b,rfl | rfl⟩ : ∃ b,b'=2*b∨b'=2*b+1:=⟨b'/2,by omega⟩
 ·have hb:b<n:=by omega
  rw [show 2*b*s+i=b*(2*s)+i by rw [Nat.mul_comm 2 b,Nat.mul_assoc],show 2*n+2*b=2*(n+b) by omega]
  refine (hl b i hb hi).1.trans (Cg.trans ?_ (key b _ hb (((hρ b hb).1.pow 2).trans (h2 b hb))).symm)
  exact (Cg.refl _).add ((hρ b hb).1.symm.mul (.refl _))
 ·have hb:b<n:=by omega
  rw [show (2*b+1)*s+i=b*(2*s)+(s+i) by rw [Nat.add_mul,Nat.mul_comm 2 b,Nat.mul_assoc]; omega,show 2*n+(2*b+1)=2*(n+b)+1 by omega]
  refine (hl b i hb hi).2.trans (Cg.trans ?_ (key b _ hb (((hρ b hb).2.pow 2).trans (Cg.trans (.of_eq ?_) (h2 b hb)))).symm)
  ·rw [Int.sub_eq_add_neg,← Int.neg_mul]
   exact (Cg.refl _).add ((hρ b hb).2.symm.mul (.refl _))
  ·grind
theorem chain_pow (hι:∀ i,2≤i→i<2*N→Cg M (ι i^2) (ι (i/2))):∀ (l i:Nat),2^l≤i→i<2*N→Cg M (ι i^2^l) (ι (i/2^l)):=by
 intro l
 induction l with
 | zero=>intro i _ _; simp only [Nat.pow_zero,Nat.div_one]; exact .of_eq (Int.pow_one _)
 | succ l ih=>
  intro i h1 h2
  have hp:0<2^l:=Nat.two_pow_pos l
  rw [Nat.pow_succ] at h1 ⊢
  have h3:2≤i:=by omega
  rw [Nat.mul_comm,Int.pow_mul]
  refine ((hι i h3 h2).pow _).trans ?_
  rw [← Nat.div_div_eq_div_mul]
  exact ih (i/2) (by omega) (by omega)
theorem bwd_step (h:InvB M A ι N (2*n) s V) (hl:BwdL M n s g V V') (hs:∃ l,s=2^l) (hN:N=n*(2*s)) (hι:∀ i,2≤i→i<2*N→Cg M (ι i^2) (ι (i/2)))
  (hg:∀ b,b<n→Cg M (ι (2*(n+b))) (g (n+b))∧Cg M (ι (2*(n+b)+1)) (- g (n+b))):InvB M A ι N n (2*s) V':=by
 obtain ⟨l,hl2⟩:=hs
 have hs0:0<s:=by rw [hl2]; exact Nat.two_pow_pos l
 have leaf:∀ c j,c<2*n→j<s→Cg M (ι (N+(c*s+j))^s) (ι (2*n+c)):=fun c j hc hj=>by
  have h1:N+(c*s+j)=s*(2*n+c)+j:=by rw [hN,Nat.mul_add,Nat.mul_comm c s,← Nat.mul_assoc n 2 s,Nat.mul_comm n 2,Nat.mul_comm (2*n) s]; omega
  have h3:N=s*(2*n):=by rw [hN,← Nat.mul_assoc n 2 s,Nat.mul_comm n 2,Nat.mul_comm]
  have h4:s*(2*n+c)+j<s*(2*n+c+1):=by rw [Nat.mul_add s (2*n+c) 1]; omega
  have h5:s*(2*n+c+1)≤s*(2*(2*n)):=Nat.mul_le_mul_left s (by omega)
  have h6:s*(2*(2*n))=2*N:=by rw [h3]; grind
  have h7:1≤2*n+c:=by omega
  have h8:s*1≤s*(2*n+c):=Nat.mul_le_mul_left s h7
  have h2:=chain_pow hι l (N+(c*s+j)) (by rw [← hl2]; omega) (by omega)
  rw [← hl2] at h2
  rw [show (N+(c*s+j))/s=2*n+c by rw [h1,Nat.mul_add_div hs0,Nat.div_eq_of_lt hj]; omega] at h2
  exact h2
 have ix0:∀ b j,2*b*s+j=b*(2*s)+j:=fun b j=>by rw [Nat.mul_comm 2 b,Nat.mul_assoc]
 have ix1:∀ b j,(2*b+1)*s+j=b*(2*s)+(s+j):=fun b j=>by rw [Nat.add_mul,Nat.mul_comm 2 b,Nat.mul_assoc]; omega
 intro b i' hb hi'
 have e2:2*s=s+s:=by omega
 have split:sm (2*s) (fun j=>A (b*(2*s)+j)*ι (N+(b*(2*s)+j))^i') =
   sm s (fun j=>A (2*b*s+j)*ι (N+(2*b*s+j))^i')+sm s (fun j=>A ((2*b+1)*s+j)*ι (N+((2*b+1)*s+j))^i'):=by
  rw [show sm (2*s) (fun j=>A (b*(2*s)+j)*ι (N+(b*(2*s)+j))^i')=sm (s+s) (fun j=>A (b*(2*s)+j)*ι (N+(b*(2*s)+j))^i') by rw [← e2],sm_app]
  refine congr (congrArg _ (sm_congr fun j _=>by rw [ix0])) (sm_congr fun j _=>by rw [ix1])
 rw [split]
 by_cases hi:i'<s
 ·have a0:=h (2*b) i' (by omega) hi
  have a1:=h (2*b+1) i' (by omega) hi
  rw [ix0] at a0
  rw [ix1] at a1
  exact (hl b i' hb hi).1.trans (a0.add a1)
 ·obtain ⟨i,rfl⟩ : ∃ i,i'=s+i:=⟨i'-s,by omega⟩
  have a0:=h (2*b) i (by omega) (by omega)
  have a1:=h (2*b+1) i (by omega) (by omega)
  rw [ix0] at a0
  rw [ix1] at a1
  refine (hl b i hb (by omega)).2.trans ?_
  have f0:∀ c,c<2*n→∀ G:Int,Cg M (ι (2*n+c)) G→Cg M (sm s fun j=>A (c*s+j)*ι (N+(c*s+j))^(s+i)) (G*sm s fun j=>A (c*s+j)*ι (N+(c*s+j))^i):=fun c hc G hG=>by
   rw [← sm_mul]
   refine sm_cg fun j hj=>?_
   rw [Int.pow_add,show A (c*s+j)*(ι (N+(c*s+j))^s*ι (N+(c*s+j))^i)=ι (N+(c*s+j))^s*(A (c*s+j)*ι (N+(c*s+j))^i) by grind]
   exact ((leaf c j hc hj).trans hG).mul (.refl _)
  have g0:=f0 (2*b) (by omega) (g (n+b)) (by rw [← Nat.mul_add]; exact (hg b hb).1)
  have g1:=f0 (2*b+1) (by omega) (- g (n+b)) (by rw [show 2*n+(2*b+1)=2*(n+b)+1 by omega]; exact (hg b hb).2)
  refine Cg.trans ?_ (g0.add g1).symm
  rw [Int.mul_sub,Int.sub_eq_add_neg,← Int.neg_mul]
  exact ((Cg.refl _).mul a0).add ((Cg.refl _).mul a1)
end
end Go.Mx
