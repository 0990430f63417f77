/- own -/
import Derived.Test.YtemdbgmldljbpaaGreatDoorBF0
import Derived.Test.YtemdbgmldljbpaaGreatDoorBFKemWorks
import Derived.Test.YtemdbgmldljbpaaGreatDoorBFKemOpens
import Derived.Test.YtemdbgmldljbpaaGreatDoorMb
import Derived.Test.YtemdbgmldljbpaaGreatDoorMp
set_option linter.unusedSimpArgs false
set_option linter.unusedVariables false
set_option maxRecDepth 100000
namespace Go.Proofs.YtemdbgmldljbpaaGreatDoor
open Go Go.Mx
theorem ginc {i:Nat}(h:i<1000000):iadd .i64 (i:Int) 1=((i+1:Nat):Int):=by rw [add64 (by omega) (by omega)]; omega
theorem g_sub (l:List Int) (a b:Nat):subL l (a:Int) (b:Int)=(l.take b).drop a:=by unfold subL; rw [Int.toNat_natCast,Int.toNat_natCast]
theorem byte_nat {l:List Int}(h:InL .u8 l) {x:Int}(hx:x∈l):∃ n:Nat,x=(n:Int)∧n<256:=by
 obtain ⟨h0,h1⟩ : 0≤x∧x≤255:=h x hx
 exact ⟨x.toNat,by omega,by omega⟩
theorem rdL_get {l:List Int}{i:Nat}(h:i<l.length):rdL (CI .u8) l (i:Int)=l[i]:=by
 unfold rdL
 rw [Int.toNat_natCast,List.getD_eq_getElem?_getD,List.getElem?_eq_getElem h]
 rfl
theorem g_rdLL {W:List (List Int)}{i:Nat}(h:i<W.length):rdLL W (i:Int)=W[i]:=by
 unfold rdLL
 rw [Int.toNat_natCast,List.getD_eq_getElem?_getD,List.getElem?_eq_getElem h]
 rfl
theorem g_flt {W:List (List Int)}{i:Nat}(h:i<W.length):(W.take (i+1)).flatten=(W.take i).flatten++W[i]:=by
 rw [List.take_succ_eq_append_getElem h,List.flatten_append]
 simp
theorem g_fle (W:List (List Int)) (i:Nat):(W.take i).flatten.length≤W.flatten.length:=by
 have h:W.flatten=(W.take i).flatten++(W.drop i).flatten:=by rw [← List.flatten_append,List.take_append_drop]
 rw [h,List.length_append]
 omega
theorem g_ct0 (K:Nat) {W:List (List Int)}(hl:W.length<100000) (hf:W.flatten.length<100000):∀ (m i k:Nat),i+m=W.length→m<k→slices_Concat_byte_byte.l0 K k W (((W.take i).flatten.length:Nat):Int) (i:Int)=some ((W.flatten.length:Nat):Int):=by
 intro m
 induction m with
 | zero=>
  intro i k hi hk
  obtain ⟨k,rfl⟩ : ∃ q,k=q+1:=⟨k-1,by omega⟩
  have c:¬ (i:Int)<((W.length:Nat):Int):=by omega
  simp only [slices_Concat_byte_byte.l0,c,if_false,List.take_of_length_le (Nat.le_of_eq (show W.length=i by omega))]
 | succ m ih=>
  intro i k hi hk
  obtain ⟨k,rfl⟩ : ∃ q,k=q+1:=⟨k-1,by omega⟩
  have hil:i<W.length:=by omega
  have c0:(i:Int)<((W.length:Nat):Int):=by omega
  have c1:(0:Int)≤(i:Int):=by omega
  have h2:=g_fle W (i+1)
  rw [g_flt hil,List.length_append] at h2
  have p:iadd .i64 (((W.take i).flatten.length:Nat):Int) ((W[i].length:Nat):Int)=(((W.take (i+1)).flatten.length:Nat):Int):=by
   rw [add64 (by omega) (by omega),g_flt hil,List.length_append]
   omega
  have c2:¬ (((W.take (i+1)).flatten.length:Nat):Int)<0:=by omega
  simp only [slices_Concat_byte_byte.l0,c0,c1,hil,g_rdLL hil,p,c2,if_true,if_false,Option.bind_some,ginc (i:=i) (by omega)]
  exact ih (i+1) k (by omega) (by omega)
theorem g_ct1 (K:Nat) {W:List (List Int)}(hl:W.length<100000) (hf:W.flatten.length<100000):∀ (m i k:Nat),i+m=W.length→m<k→slices_Concat_byte_byte.l1 K k W (i:Int) (W.take i).flatten=some W.flatten:=by
 intro m
 induction m with
 | zero=>
  intro i k hi hk
  obtain ⟨k,rfl⟩ : ∃ q,k=q+1:=⟨k-1,by omega⟩
  have c:¬ (i:Int)<((W.length:Nat):Int):=by omega
  simp only [slices_Concat_byte_byte.l1,c,if_false,List.take_of_length_le (Nat.le_of_eq (show W.length=i by omega))]
 | succ m ih=>
  intro i k hi hk
  obtain ⟨k,rfl⟩ : ∃ q,k=q+1:=⟨k-1,by omega⟩
  have hil:i<W.length:=by omega
  have c0:(i:Int)<((W.length:Nat):Int):=by omega
  have c1:(0:Int)≤(i:Int):=by omega
  have h2:=g_fle W (i+1)
  rw [g_flt hil,List.length_append] at h2
  have c2:(W.take i).flatten.length+W[i].length≤140737488355328:=by omega
  simp only [slices_Concat_byte_byte.l1,c0,c1,hil,g_rdLL hil,c2,if_true,Option.bind_some,ginc (i:=i) (by omega),← g_flt hil]
  exact ih (i+1) k (by omega) (by omega)
theorem gJoinW (K:Nat) {W:List (List Int)}(hK:W.length<K) (hl:W.length<100000) (hf:W.flatten.length<100000):bits_Join.f K W=some W.flatten:=by
 have h0:slices_Concat_byte_byte.l0 K K W 0 0=some ((W.flatten.length:Nat):Int):=g_ct0 K hl hf W.length 0 K (by omega) hK
 have h1:=g_ct1 K hl hf W.length 0 K (by omega) hK
 have h1':slices_Concat_byte_byte.l1 K K W 0 []=some W.flatten:=h1
 unfold bits_Join.f slices_Concat_byte_byte.f
 have c0:¬ ((W.flatten.length:Nat):Int)<0:=by omega
 have p:isub .i64 ((W.flatten.length:Nat):Int) 0=((W.flatten.length:Nat):Int):=by rw [sub64 (by omega) (by omega)]; omega
 rw [h0]
 simp only [Option.bind_some,c0,if_false,p]
 by_cases hz:((W.flatten.length:Nat):Int)>0
 ·have c1:(1:Int)≤((W.flatten.length:Nat):Int):=by omega
  have c2:((W.flatten.length:Nat):Int)≤140737488355328:=by omega
  have c3:(0:Int)≤(((List.replicate (((W.flatten.length:Nat):Int)).toNat (Cod.zero (CI .u8))).length:Nat):Int):=by omega
  have c4:(0:Int)≤0:=by decide
  simp only [hz,c1,c2,c3,c4,if_true,Option.bind_some,show (0:Int).toNat=0 from rfl,List.take_zero,h1']
 ·simp only [hz,if_false,Option.bind_some,h1']
end Go.Proofs.YtemdbgmldljbpaaGreatDoor
