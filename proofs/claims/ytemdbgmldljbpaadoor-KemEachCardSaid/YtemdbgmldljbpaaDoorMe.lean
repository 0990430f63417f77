/- own -/
import Derived.Test.YtemdbgmldljbpaaDoorMf
namespace Go.Mx
open Go.RowKit
section
variable {P : Program} {ops : Array Oper} {K Kn : Act → World → Prop} {a : Act} {w w' : World} {i : Nat} {w0 : World} {X : List Nat} {L R : List Ent}
def cpL (l m:List Int):List Int:=m.take l.length++l.drop m.length
theorem cpL_len (l m:List Int):(cpL l m).length=l.length:=by
 unfold cpL
 rw [List.length_append,List.length_take,List.length_drop]
 omega
theorem op_copyL {d:Option Tmp}(hd:dstAt ops i=d) {td ts ty e n c nx cx:Nat}{k:IntKind}{l m:List Int}{A Ax:Option Addr}(hs:St w0 X L R w) (j:Nat) (hj:L[j]? = some (.ownL (CI k) A n c l e)) (hr:RowL (CI k) w Ax nx cx m)
  (he:execAt ops i a=nextV (Builtin.copy_ #[td,ts] ty #[.slice A n c,.slice Ax nx cx])) (hu:P.underlying td=some (.slice e)) (hsz:szOf P e=some 1) (h0:0<l.length)
  (KK:∀ w',St w0 X (L.set j (.ownL (CI k) A n c (cpL l m) e)) R w'→K (a.put d (.int .i64 ((min m.length l.length:Nat):Int))) w'):wpOp P ops (NoP Kn) i K a w:=by
 have hnl:n=l.length:=RowL.length (hs.rowL j hj)
 have hnx:=hr.length
 obtain ⟨g,rest,rfl,hnc,hcm,hxl,hrl,hb⟩:=hs.openOwn j hj (by omega)
 have hjl:j<L.length:=(List.getElem?_eq_some_iff.1 hj).1
 have hj':(L.set j (.blk g (encL (CI k) l++rest) e))[j]? = some (.blk g (encL (CI k) l++rest) e):=by simp [hjl]
 have hs1:(CI k).size=1:=rfl
 have hlen:(m.take l.length).length=min m.length l.length:=by rw [List.length_take]; omega
 have e1:encL (CI k) (m.take l.length)=(encL (CI k) m).take (min nx l.length):=by
  have h3:m.take l.length=m.take (min nx l.length):=by
   rw [hnx,Nat.min_comm,← List.take_take,List.take_of_length_le (l:=m) (Nat.le_refl _)]
  have h4:=encL_sub (CI k) m 0 (min nx l.length) (by omega) (by omega)
  rw [List.drop_zero,Nat.zero_mul,List.drop_zero,hs1,Nat.mul_one] at h4
  rw [h3,h4]
 have hel:(encL (CI k) (m.take l.length)).length=min nx l.length:=by
  rw [encL_len,hlen,hnx]
  exact Nat.mul_one _
 have hll:(encL (CI k) l).length=l.length:=by rw [encL_len]; exact Nat.mul_one _
 obtain ⟨w2,hr2,hb2,q1,q2,q3,q4,q5⟩:=run_storeCells (P:=P) (b:=g) (t:=e) (o:=0) (encL (CI k) (m.take l.length)) 0 (encL (CI k) l++rest) w (hb.blkAt j hj') (by rw [hel,List.length_append,hll]; omega) (encL_one _ _)
 have hsp:splice (encL (CI k) l++rest) (0+0) (encL (CI k) (m.take l.length))=encL (CI k) (cpL l m)++rest:=by
  have h5:encL (CI k) (l.drop m.length)=(encL (CI k) l).drop (min nx l.length):=by
   by_cases hm:m.length≤l.length
   ·have h4:=encL_sub (CI k) l m.length l.length hm (Nat.le_refl _)
    rw [hs1,Nat.mul_one,Nat.mul_one,List.take_length,List.take_of_length_le (l:=encL (CI k) l) (by omega)] at h4
    rw [h4]
    congr 1
    omega
   ·rw [List.drop_of_length_le (show l.length≤m.length by omega),List.drop_of_length_le (l:=encL (CI k) l) (by omega)]
    rfl
  unfold splice cpL
  rw [encL_append,h5,hel,Nat.add_zero,Nat.zero_add,List.take_zero,List.nil_append,List.drop_append_of_le_length (by omega),List.append_assoc]
 rw [hsp] at hb2
 have hmin:Nat.min nx n=min m.length l.length:=by rw [hnx,hnl]
 have hrun:(Builtin.copy_ #[td,ts] ty #[.slice (some ⟨g,0,none⟩) n c,.slice Ax nx cx]).run P w = .ok (.int .i64 ((min m.length l.length:Nat):Int)) w2:=by
  have hfc:(Builtin.firstCells 1 (Nat.min nx n) (.slice Ax nx cx)).run P w = .ok (encL (CI k) (m.take l.length)).toArray w:=by
   cases Ax with
   | none=>
    have h5:=hr.2.1.2 rfl
    have h6:m=[]:=List.eq_nil_of_length_eq_zero (by have:=hr.2.1.1; omega)
    subst h6
    simp [Builtin.firstCells,encL]
   | some ad=>
    have:=run_firstCells_some (P:=P) (w:=w) 1 (Nat.min nx n) ad nx cx (encL (CI k) (m.take l.length)) (by rw [hel,Nat.mul_one,hnl]) fun q v hq=>by
     rw [e1,List.getElem?_take] at hq
     split at hq
     ·obtain ⟨b2,o2,cs2,T2,fz2,hA2,hh2,hc2⟩:=hr.cell hq
      obtain rfl:=Option.some.inj hA2
      rw [add_plain]
      simp [World.cell?,hh2,hc2]
     ·cases hq
    exact this
  unfold Builtin.copy_
  simp only [List.getElem?_toArray,List.getElem?_cons_zero,List.getElem?_cons_succ,run_underlying hu,Sem.run_bind,Result.andThen,Builtin.lenOf,Sem.run_pure,run_sizeOf hsz,hfc,hr2]
  rw [← hmin]
  rfl
 have hset:=hb.blkSet j hj' q1 q2 q3 q4 hb2 q5
 rw [List.set_set] at hset
 have hcl:=hset.closeOwn j (n:=n) (c:=c) (size:=(CI k).size) (xs:=encL (CI k) (cpL l m)) (rest:=rest) (e:=e) (g:=g) (by simp [hjl]) hnc hcm (by rw [encL_len,cpL_len,hnl]) (by
  rw [List.length_append,encL_len] at hrl ⊢
  rw [cpL_len]
  exact hrl)
 rw [List.set_set] at hcl
 refine wpOp_val hd (w':=w2) ?_ (KK w2 hcl)
 rw [he]
 exact run_nextV hrun
end
end Go.Mx
