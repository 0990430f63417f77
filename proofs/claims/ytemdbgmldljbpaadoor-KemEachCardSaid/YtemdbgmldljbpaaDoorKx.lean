/- own -/
import Derived.Test.YtemdbgmldljbpaaDoorKh
set_option linter.unusedSimpArgs false
set_option linter.unusedVariables false
namespace Go.Proofs.YtemdbgmldljbpaaDoor
open Go Go.Mx
def dign (d:Nat):Nat→Nat→List Nat
 | 0,_=>[]
 | n+1,M=>M%2^d::dign d n (M/2^d)
theorem dig_dign (d:Nat):∀ n M,dig d n M=(dign d n M).map fun (x:Nat)=>(x:Int)
 | 0,_=>rfl
 | n+1,M=>by
  show ((M%2^d:Nat):Int)::dig d n (M/2^d)=((M%2^d:Nat):Int)::(dign d n (M/2^d)).map _
  rw [dig_dign d n]
theorem dign_ND (d:Nat):∀ l:List Nat,(∀ x∈l,x<2^d)→dign d l.length (ND d l)=l
 | [],_=>rfl
 | x::l,h=>by
  have hx:=h x List.mem_cons_self
  show (x%2^d+2^d*ND d l)%2^d::dign d l.length ((x%2^d+2^d*ND d l)/2^d)=x::l
  rw [Nat.mod_eq_of_lt hx,Nat.add_mul_mod_self_left,Nat.mod_eq_of_lt hx,Nat.add_mul_div_left _ _ (Nat.two_pow_pos d),Nat.div_eq_of_lt hx,Nat.zero_add,dign_ND d l fun y hy=>h y (List.mem_cons_of_mem _ hy)]
theorem rd_unp (l:List Nat) (h:∀ x∈l,x<4096) (i:Nat) (hi:i<256) (hl:i<l.length):rd (unp (l.map fun (x:Nat)=>(x:Int))) (i:Nat)=((l[i]:Nat):Int):=by
 unfold unp
 rw [rd_mapA _ _ hi,nats l i hl]
 have:=h l[i] (List.getElem_mem hl)
 exact conv32 (by omega) (by omega)
theorem unp_natsA {a:Arr 256}(ha:Bel 3329 a):unp ((natsA a).map fun (x:Nat)=>(x:Int))=a:=by
 refine arr_ext fun i hi=>?_
 rw [rd_unp (natsA a) ?_ i hi (by rw [natsA_len]; exact hi),natsA_get]
 ·obtain ⟨h0,h1⟩:=ha i hi
  omega
 ·intro x hx
  unfold natsA at hx
  obtain ⟨j,hj,rfl⟩:=List.mem_map.1 hx
  obtain ⟨h0,h1⟩:=ha j (List.mem_range.1 hj)
  omega
theorem ND_lt' (d m:Nat) (l:List Nat) (hm:d*l.length=8*m):ND d l<256^m:=by
 rw [two_mul8,← hm]
 exact ND_lt d l
theorem unp_pack (a:Arr 256) (ha:Bel 3329 a):unpV (packV a 12) 12=(a,true):=by
 have hB:allA (belowB (if (12:Int).toNat=12 then 3329 else ((2^(12:Int).toNat:Nat):Int))) a=true:=of_bel ha
 have hlt:∀ x∈natsA a,x<2^12:=by
  intro x hx
  unfold natsA at hx
  obtain ⟨j,hj,rfl⟩:=List.mem_map.1 hx
  obtain ⟨h0,h1⟩:=ha j (List.mem_range.1 hj)
  have:(4096:Nat)=2^12:=by decide
  omega
 have e12:(12:Int).toNat=12:=rfl
 obtain ⟨m,hm⟩ : ∃ m,m=(12*256+7)/8:=⟨_,rfl⟩
 unfold packV
 rw [if_pos ⟨by decide,by decide,hB⟩,e12,← hm]
 unfold unpV
 rw [if_pos ⟨by decide,by decide,by rw [dig_len]; omega⟩,e12,NB_dig,Nat.mod_eq_of_lt]
 ·have e:=dign_ND 12 (natsA a) hlt
  rw [natsA_len] at e
  rw [dig_dign,e]
  unfold outU
  rw [unp_natsA ha,if_pos (show (12:Nat)=12 from rfl),if_pos (of_bel ha)]
 ·exact ND_lt' 12 m (natsA a) (by rw [natsA_len]; omega)
end Go.Proofs.YtemdbgmldljbpaaDoor
