/- own -/
import Derived.Test.YtemdbgmldljbpaaGreatDoorMr
namespace Go.Mx
open Go
theorem w32 (x:Int):IntKind.wrap .i32 x=(x+2147483648)%4294967296-2147483648:=by
 simp only [IntKind.wrap,IntKind.bits,IntKind.signed]
 simp only [Bool.true_and,decide_eq_true_eq,ge_iff_le]
 split<;>omega
theorem w64 (x:Int):IntKind.wrap .i64 x=(x+9223372036854775808)%18446744073709551616-9223372036854775808:=by
 simp only [IntKind.wrap,IntKind.bits,IntKind.signed]
 simp only [Bool.true_and,decide_eq_true_eq,ge_iff_le]
 split<;>omega
theorem wu8 (x:Int):IntKind.wrap .u8 x=x%256:=by
 simp [IntKind.wrap,IntKind.bits,IntKind.signed]
theorem wu32 (x:Int):IntKind.wrap .u32 x=x%4294967296:=by
 simp [IntKind.wrap,IntKind.bits,IntKind.signed]
theorem wu64 (x:Int):IntKind.wrap .u64 x=x%18446744073709551616:=by
 simp [IntKind.wrap,IntKind.bits,IntKind.signed]
theorem id32 {x:Int}(h0 : -2147483648≤x) (h1:x≤2147483647):IntKind.wrap .i32 x=x:=by rw [w32]; omega
theorem id64 {x:Int}(h0 : -9223372036854775808≤x) (h1:x≤9223372036854775807):IntKind.wrap .i64 x=x:=by rw [w64]; omega
theorem add64 {x y:Int}(h0 : -9223372036854775808≤x+y) (h1:x+y≤9223372036854775807):iadd .i64 x y=x+y:=id64 h0 h1
theorem sub64 {x y:Int}(h0 : -9223372036854775808≤x-y) (h1:x-y≤9223372036854775807):isub .i64 x y=x-y:=id64 h0 h1
theorem mul64 {x y:Int}(h0 : -9223372036854775808≤x*y) (h1:x*y≤9223372036854775807):imul .i64 x y=x*y:=id64 h0 h1
theorem add32 {x y:Int}(h0 : -2147483648≤x+y) (h1:x+y≤2147483647):iadd .i32 x y=x+y:=id32 h0 h1
theorem sub32 {x y:Int}(h0 : -2147483648≤x-y) (h1:x-y≤2147483647):isub .i32 x y=x-y:=id32 h0 h1
theorem mul32 {x y:Int}(h0 : -2147483648≤x*y) (h1:x*y≤2147483647):imul .i32 x y=x*y:=id32 h0 h1
theorem tmodN {x y:Int}(h:0≤x):x.tmod y=x%y:=Int.tmod_eq_emod_of_nonneg h
theorem tdivN {x y:Int}(h:0≤x):x.tdiv y=x/y:=Int.tdiv_eq_ediv_of_nonneg h
section
variable {n : Nat}
theorem rd_eq (a:Arr n) (i:Nat) (h:i<n):rd a i=a[i]:=by
 simp [rd,List.getD_eq_getElem?_getD,h]
theorem rd_wr (a:Arr n) (i j:Nat) (x:Int) (hj:j<n):rd (wr a i x) j=if i=j then x else rd a j:=by
 rw [rd_eq _ _ hj,rd_eq _ _ hj]
 simp only [wr,Int.toNat_natCast,Vector.getElem_setIfInBounds]
theorem rd_wr_same (a:Arr n) (i:Nat) (x:Int) (hi:i<n):rd (wr a i x) i=x:=by rw [rd_wr _ _ _ _ hi,if_pos rfl]
theorem rd_wr_ne (a:Arr n) (i j:Nat) (x:Int) (hj:j<n) (h:i≠j):rd (wr a i x) j=rd a j:=by rw [rd_wr _ _ _ _ hj,if_neg h]
theorem arr_ext {a b:Arr n}(h:∀ i:Nat,i<n→rd a i=rd b i):a=b:=by
 apply Vector.ext
 intro i hi
 have:=h i hi
 rwa [rd_eq _ _ hi,rd_eq _ _ hi] at this
def mapA (n:Nat) (f:Nat→Int):Arr n:=Vector.ofFn fun i=>f i
theorem rd_mapA (f:Nat→Int) (i:Nat) (h:i<n):rd (mapA n f) i=f i:=by rw [rd_eq _ _ h]; simp [mapA]
theorem rd_zeroA (i:Nat) (h:i<n):rd (zeroA n) i=0:=by rw [rd_eq _ _ h]; simp [zeroA]
theorem loop_map (l:Nat→Int→Arr n→Option (Arr n)) (f:Nat→Int→Int) (a:Arr n)
  (step:∀ (k i:Nat) (z:Arr n),i<n→rd z i=rd a i→l (k+1) i z=l k ((i+1:Nat):Int) (wr z i (f i (rd a i))))
  (stop:∀ (k:Nat) (z:Arr n),l (k+1) n z=some z) (K:Nat) (hK:n<K):l K 0 a=some (mapA n fun i=>f i (rd a i)):=by
 have key:∀ (d i k:Nat) (z:Arr n),i+d=n→d<k→(∀ j,j<n→rd z j=if j<i then f j (rd a j) else rd a j)→l k i z=some (mapA n fun i=>f i (rd a i)):=by
  intro d
  induction d with
  | zero=>
   intro i k z hi hk hz
   obtain ⟨k,rfl⟩ : ∃ m,k=m+1:=⟨k-1,by omega⟩
   obtain rfl:i=n:=by omega
   rw [stop]
   refine congrArg some (arr_ext fun j hj=>?_)
   rw [hz j hj,if_pos hj,rd_mapA _ _ hj]
  | succ d ih=>
   intro i k z hi hk hz
   obtain ⟨k,rfl⟩ : ∃ m,k=m+1:=⟨k-1,by omega⟩
   have hin:i<n:=by omega
   rw [step k i z hin (by rw [hz i hin,if_neg (by omega)])]
   refine ih (i+1) k _ (by omega) (by omega) fun j hj=>?_
   rw [rd_wr _ _ _ _ hj,hz j hj]
   by_cases h:i=j
   ·subst h; rw [if_pos rfl,if_pos (by omega)]
   ·rw [if_neg h]
    by_cases h2:j<i
    ·rw [if_pos h2,if_pos (by omega)]
    ·rw [if_neg h2,if_neg (by omega)]
 have:=key n 0 K a (by omega) hK fun j hj=>by rw [if_neg (by omega)]
 simpa using this
def allA (p:Int→Bool) (a:Arr n):Bool:=decide (∀ i:Nat,i<n→p (rd a i)=true)
theorem loop_all {U:Type}(l:Nat→Int→Option (Unit ⊕ U)) (p:Int→Bool) (no:U) (a:Arr n)
  (yes:∀ (k i:Nat),i<n→p (rd a i)=true→l (k+1) i=l k ((i+1:Nat):Int))
  (not:∀ (k i:Nat),i<n→p (rd a i)=false→l (k+1) i=some (.inr no))
  (stop:∀ (k:Nat),l (k+1) n=some (.inl ())) (K:Nat) (hK:n<K):l K 0=some (if allA p a=true then .inl () else .inr no):=by
 have key:∀ (d i k:Nat),i+d=n→d<k→(∀ j,j<i→p (rd a j)=true)→l k i=some (if allA p a=true then .inl () else .inr no):=by
  intro d
  induction d with
  | zero=>
   intro i k hi hk hz
   obtain ⟨k,rfl⟩ : ∃ m,k=m+1:=⟨k-1,by omega⟩
   obtain rfl:i=n:=by omega
   rw [stop,if_pos (by unfold allA; exact decide_eq_true hz)]
  | succ d ih=>
   intro i k hi hk hz
   obtain ⟨k,rfl⟩ : ∃ m,k=m+1:=⟨k-1,by omega⟩
   have hin:i<n:=by omega
   cases hp:p (rd a i) with
   | true=>
    rw [yes k i hin hp]
    refine ih (i+1) k (by omega) (by omega) fun j hj=>?_
    by_cases h:j=i
    ·subst h; exact hp
    ·exact hz j (by omega)
   | false=>
    rw [not k i hin hp,if_neg]
    unfold allA
    rw [decide_eq_true_eq]
    intro h
    rw [h i hin] at hp
    cases hp
 have:=key n 0 K (by omega) hK fun j hj=>by omega
 simpa using this
theorem loop_fold {S:Type}(l:Nat→S→Int→Option S) (f:S→Nat→S) (m:Nat)
  (step:∀ (k i:Nat) (s:S),i<m→l (k+1) s i=l k (f s i) ((i+1:Nat):Int))
  (stop:∀ (k:Nat) (s:S),l (k+1) s m=some s) (K:Nat) (hK:m<K) (s:S):l K s 0=some ((List.range m).foldl f s):=by
 have key:∀ (d i k:Nat) (s:S),i+d=m→d<k→l k s i=some ((List.range' i d).foldl f s):=by
  intro d
  induction d with
  | zero=>
   intro i k s hi hk
   obtain ⟨k,rfl⟩ : ∃ m,k=m+1:=⟨k-1,by omega⟩
   obtain rfl:i=m:=by omega
   rw [stop]
   rfl
  | succ d ih=>
   intro i k s hi hk
   obtain ⟨k,rfl⟩ : ∃ m,k=m+1:=⟨k-1,by omega⟩
   rw [step k i s (by omega),ih (i+1) k _ (by omega) (by omega),List.range'_succ]
   rfl
 have:=key m 0 K s (by omega) hK
 rw [List.range_eq_range']
 simpa using this
end
end Go.Mx
