/- own -/
import Derived.Test.YtemdbgmldljbpaaGreatDoorMt
set_option linter.unusedSimpArgs false
set_option linter.unusedVariables false
namespace Go.Mx
open Go.RowKit
section
variable {P : Program} {ops : Array Oper} {K Kn : Act → World → Prop} {a : Act} {w w' : World} {i : Nat} {w0 : World} {X : List Nat} {L R : List Ent}
theorem St.startX {w:World}{b:Nat}{c:List Value}{t:TypeId}{R:List Ent}(hb:w.heap[b]? = some (.cells c.toArray t (0,0))) (h:∀ e∈R,(e.p w∧∀ b,e.foot b→b<w.heap.size)∧¬ e.foot b):St w [b] [.blk b c t] R w:=
 ⟨rfl,rfl,rfl,Nat.le_refl _,fun _ _ _=>rfl,fun e he=>by
   obtain rfl:=List.mem_singleton.1 he
   refine ⟨hb,fun b' hb'=>?_⟩
   obtain rfl:b'=b:=hb'
   exact ⟨(Array.getElem?_eq_some_iff.1 hb).1,.inl (by simp)⟩,.cons (fun _ h=>(by cases h)) .nil,fun e he=>⟨(h e he).1.1,fun b' hb'=>⟨(h e he).1.2 b' hb',fun e' he' hf=>by
   obtain rfl:=List.mem_singleton.1 he'
   obtain rfl:b'=b:=hf
   exact (h e he).2 hb'⟩⟩⟩
theorem allX_nil {w:World}{b:Nat} : ∀ e∈([]:List Ent),(e.p w∧∀ b,e.foot b→b<w.heap.size)∧¬ e.foot b:=fun _ h=>(by cases h)
theorem allX_cons {w:World}{b:Nat}{e:Ent}{R:List Ent}(h:e.p w∧∀ b,e.foot b→b<w.heap.size) (hn:¬ e.foot b) (hr:∀ e∈R,(e.p w∧∀ b,e.foot b→b<w.heap.size)∧¬ e.foot b):∀ e'∈e::R,(e'.p w∧∀ b,e'.foot b→b<w.heap.size)∧¬ e'.foot b:=by
 intro e' he'
 rcases List.mem_cons.1 he' with rfl | he'
 ·exact ⟨h,hn⟩
 ·exact hr e' he'
theorem St.farR (h:St w0 X L R w) (j i:Nat) {b:Nat}{c:List Value}{t:TypeId}{e:Ent}(hj:L[j]? = some (.blk b c t)) (hi:R[i]? = some e):¬ e.foot b:=
 fun hf=>((h.read e (List.mem_of_getElem? hi)).2 b hf).2 _ (List.mem_of_getElem? hj) rfl
theorem op_callX {d:Option Tmp}(hd:dstAt ops i=d) {f:FuncId}{args:Array Value}{v:Value}{b:Nat}{c c':List Value}{t:TypeId}(hs:St w0 X L R w) (j:Nat) (hj:L[j]? = some (.blk b c t)) (he:∀ w,(execAt ops i a).run P w = .ok (.enter f args) w)
  (cl:Calls P f args w fun e w'=>e = .returned v∧St w [b] [.blk b c' t] [] w') (k:∀ w',Keep (fun k=>k=b) w w'→St w0 X (L.set j (.blk b c' t)) R w'→K (a.put d v) w'):wpOp P ops (NoP Kn) i K a w:=by
 refine wpOp_call hd he cl fun _ w' ⟨h1,h2⟩=>⟨v,h1,k w' (fun x o hx ho=>?_) (hs.entSet j hj h2.os h2.tape h2.output h2.size (fun k hk hf=>h2.block k hk (by simp; exact hf)) (h2.own _ (by simp)).1 fun b' hb'=>?_)⟩
 ·rw [h2.block x (Array.getElem?_eq_some_iff.1 ho).1 (by simp; exact hx)]; exact ho
 ·obtain rfl:b'=b:=hb'
  exact ⟨((h2.own _ (List.mem_singleton.2 rfl)).2 b' rfl).1,.inl rfl⟩
theorem St.front (h:St w0 X L R w) (j:Nat) {e:Ent}(hj:L[j]? = some e):St w0 X (e::L.eraseIdx j) R w:=by
 have hjm:=List.mem_of_getElem? hj
 obtain ⟨hjl,hje⟩:=List.getElem?_eq_some_iff.1 hj
 have hsub:∀ x∈e::L.eraseIdx j,x∈L:=fun x hx=>by
  rcases List.mem_cons.1 hx with rfl | hx
  ·exact hjm
  ·exact List.mem_of_mem_eraseIdx hx
 refine ⟨h.os,h.tape,h.output,h.size,h.block,fun x hx=>h.own x (hsub x hx),?_,fun x hx=>⟨(h.read x hx).1,fun b hb=>⟨((h.read x hx).2 b hb).1,fun e' he'=>((h.read x hx).2 b hb).2 e' (hsub e' he')⟩⟩⟩
 refine .cons (fun y hy b hb hb'=>?_) (h.apart.sublist (List.eraseIdx_sublist ..))
 rw [List.mem_iff_getElem?] at hy
 obtain ⟨m,hm⟩:=hy
 rw [List.getElem?_eraseIdx] at hm
 have hp:=List.pairwise_iff_getElem.1 h.apart
 split at hm
 ·obtain ⟨hml,hme⟩:=List.getElem?_eq_some_iff.1 hm
  exact hp m j hml hjl (by omega) b (by rw [hme]; exact hb') (by rw [hje]; exact hb)
 ·obtain ⟨hml,hme⟩:=List.getElem?_eq_some_iff.1 hm
  exact hp j (m+1) hjl hml (by omega) b (by rw [hje]; exact hb) (by rw [hme]; exact hb')
theorem calls_kn {f:FuncId}{fn:Func}{c:Code}{args:Array Value}{R':Ending→World→Prop}(hf:P.funcs[f]? = some fn) (hb:fn.body=some c)
  (h:∀ Q:Exit→Act→World→Prop,(∀ a w,bodyPost P fn R' .ret a w→Q .ret a w)→(∀ a w,bodyPost P fn R' .normal a w→Q .normal a w)→c.wpIn (FR none) 0 P Q { tmps:=args++Array.replicate (fn.ntmps-args.size) undef,defers:=[] } w):Calls P f args w R':=
 callsIn_wide.1 (callsIn_of_wp (n:=0) hf hb trivial (h _ (fun _ _ h=>h) (fun _ _ h=>h)))
theorem post_nrm {fn:Func}{R':Ending→World→Prop}{v:Value}(hd:a.defers=[]) (h:(results fn a.tmps).run P w = .ok v w) (hR:R' (.returned v) w):bodyPost P fn R' .normal a w:=⟨hd,v,h,hR⟩
theorem yld_loadG {g n1 c1 e n:Nat}{k:IntKind}{h:0<n}{tab:Arr n}{x:Int}(hr:RowL (CA k n h) w (some ⟨g,0,none⟩) n1 c1 [tab]) (he:execAt ops i a=nextV (Instr.loadAt e (.pointer (some ⟨g,0+x.toNat*1,none⟩)))) (hg:aggB P e=some false) (h0:0≤x) (h1:x<n) :
  Yld P ops Grow i a w (.int k (rd tab x)):=by
 have hv:(encL (CA k n h) [tab])[x.toNat]? = some (.int k (rd tab x)):=by
  show (enc k tab++[])[x.toNat]? = _
  rw [List.append_nil]
  exact enc_get k tab x h0 h1
 intro w' gw
 rw [he]
 refine run_nextV ?_
 have hr':RowP w' (some ⟨g,0,none⟩) n1 c1 (encL (CA k n h) [tab]) (CA k n h).size:=(Ent.row _ n1 c1 (encL (CA k n h) [tab]) (CA k n h).size).loc w w' (fun b hb=>gw.block b (hr.foot_lt b hb)) hr
 obtain ⟨ad,q1,q2⟩:=run_loadVarS (P:=P) hr' hg hv
 have:ad=⟨g,0+x.toNat*1,none⟩:=by
  simp only [adr,Option.map_some,Option.some.injEq,add_plain] at q1
  rw [← q1,Nat.mul_one]
 subst this
 exact q2
def subA (m:Nat) {n:Nat}(c:Arr n) (x:Int):Arr m:=Vector.ofFn fun i:Fin m=>rd c (x+(i:Nat))
theorem rd_subA {m n:Nat}(c:Arr n) (x:Int) (i:Nat) (hi:i<m):rd (subA m c x) (i:Nat)=rd c (x+(i:Nat)):=by
 simp [rd,subA,List.getD_eq_getElem?_getD,hi]
theorem sub_cells {m n:Nat}(k:IntKind) (c:Arr n) (x:Int) (h0:0≤x) (h1:x+m≤n):((enc k c).drop x.toNat).take m=enc k (subA m c x):=by
 apply List.ext_getElem?
 intro j
 rw [List.getElem?_take]
 by_cases hj:j<m
 ·rw [if_pos hj,List.getElem?_drop,show x.toNat+j=(x+(j:Nat)).toNat by omega,enc_get k c (x+(j:Nat)) (by omega) (by omega)]
  have:=enc_get k (subA m c x) (j:Nat) (by omega) (by omega)
  rw [Int.toNat_natCast,rd_subA c x j hj] at this
  exact this.symm
 ·rw [if_neg hj,List.getElem?_eq_none (by rw [enc_len]; omega)]
theorem yld_loadSub {ρ:World→World→Prop}{m n:Nat}(hs:St w0 X L R w) (j:Nat) {b:Nat}{t e:TypeId}{k:IntKind}{c:Arr n}{x:Int}(hj:L[j]? = some (.blk b (enc k c) t)) (he:execAt ops i a=nextV (Instr.loadAt e (.pointer (some ⟨b,0+x.toNat*1,none⟩))))
  (hg:aggB P e=some true) (hn:szOf P e=some m) (h0:0≤x) (h1:x+m≤n) (hB:Bears ρ w b):Yld P ops ρ i a w (.agg (enc k (subA m c x)).toArray):=
 yld_loadN hs j hj he hg hn (by rw [Nat.zero_add,Nat.mul_one]; exact sub_cells k c x h0 h1) (enc_len _ _) hB
theorem run_boundsA {k1 k2:IntKind}{lo hi:Int}{n:Nat}(h0:0≤lo) (h1:lo≤hi) (h2:hi≤n) :
  (Instr.sliceBounds false n n (some (.int k1 lo)) (some (.int k2 hi)) none).run P w = .ok (lo.toNat,hi.toNat,n) w:=by
 unfold Instr.sliceBounds
 have b1:∀ k code,(Instr.sliceBound (.int k hi) n code).run P w = .ok hi.toNat w:=fun k code=>run_bound (by omega) (by omega)
 have b2:∀ k code,(Instr.sliceBound (.int k lo) hi.toNat code).run P w = .ok lo.toNat w:=fun k code=>run_bound h0 (by omega)
 simp [Sem.run_bind,Result.andThen,b1,b2]
theorem yld_slA {t e n b o:Nat}{k1 k2:IntKind}{lo hi:Int}(he:execAt ops i a=nextV (Instr.sliceAt t (.pointer (some ⟨b,o,none⟩)) (some (.int k1 lo)) (some (.int k2 hi)) none)) (hu:P.underlying t=some (.array n e)) (hs:szOf P e=some 1)
  (h0:0≤lo) (h1:lo≤hi) (h2:hi≤n) (h3:lo<n):Yld P ops Any i a w (.slice (some ⟨b,o+lo.toNat*1,none⟩) (hi.toNat-lo.toNat) (n-lo.toNat)):=by
 refine yld fun w'=>?_
 rw [he]
 refine run_nextV ?_
 unfold Instr.sliceAt
 have hne:¬ n=lo.toNat:=by omega
 simp [run_underlying hu,Sem.run_bind,Result.andThen,Instr.sureAddr,run_boundsA h0 h1 h2,run_sizeOf hs,hne,add_plain]
theorem yld_toArr {t e n len c:Nat}{A:Option Addr}(he:execAt ops i a=nextV (Instr.arrayAt t (.slice A len c))) (hu:P.underlying t=some (.array n e)) (h:n≤len):Yld P ops Any i a w (.pointer A):=by
 refine yld fun w'=>?_
 rw [he]
 refine run_nextV ?_
 unfold Instr.arrayAt
 have hlt:¬ len<n:=by omega
 simp [run_underlying hu,Sem.run_bind,Result.andThen,hlt]
section
variable {n o : Nat} {k : IntKind} {pre post : List Value} {c c' : Arr n} {v : Value}
theorem get_pre (h:pre[o]? = some v):(pre++enc k c++post)[o]? = some v:=by
 have hl:=(List.getElem?_eq_some_iff.1 h).1
 rw [List.append_assoc,List.getElem?_append_left hl,h]
theorem get_post (q:Nat) (ho:o=pre.length+n+q) (h:post[q]? = some v):(pre++enc k c++post)[o]? = some v:=by
 subst ho
 rw [List.getElem?_append_right (by simp [enc_len]),List.length_append,enc_len,show pre.length+n+q-(pre.length+n)=q by omega,h]
theorem mid_of (ho:o=pre.length):((pre++enc k c++post).drop o).take n=enc k c:=by
 subst ho
 rw [List.append_assoc,List.drop_left,List.take_append_of_le_length (by rw [enc_len]; omega),List.take_of_length_le (by rw [enc_len]; omega)]
theorem set_post (q:Nat) (ho:o=pre.length+n+q):(pre++enc k c++post).set o v=pre++enc k c++post.set q v:=by
 subst ho
 rw [List.set_append_right _ _ (by simp [enc_len]),List.length_append,enc_len,show pre.length+n+q-(pre.length+n)=q by omega]
theorem splice_row (ho:o=pre.length):splice (pre++enc k c++post) o (enc k c')=pre++enc k c'++post:=by
 subst ho
 have e1:(pre++enc k c++post).take pre.length=pre:=by rw [List.append_assoc,List.take_left]
 have e2:(pre++enc k c++post).drop (pre.length+n)=post:=by
  rw [← List.drop_drop,List.append_assoc,List.drop_left]
  exact List.drop_left' (enc_len k c)
 unfold splice
 rw [enc_len,e1,e2]
theorem one_app {x y:List Value}(hx:∀ u∈x,u.oneCell'=true) (hy:∀ u∈y,u.oneCell'=true):∀ u∈x++y,u.oneCell'=true:=fun u hu=>(List.mem_append.1 hu).elim (hx u) (hy u)
end
theorem op_storeQ {d:Option Tmp}(hd:dstAt ops i=d) {t:TypeId}{v:Value}{b o:Nat}{c c':List Value}{T:TypeId}(hs:St w0 X L R w) (j:Nat) (hj:L[j]? = some (.blk b c T)) (he:execAt ops i a=nextU (Instr.storeAt t (.pointer (some ⟨b,o,none⟩)) v))
  (hv:v.oneCell'=true) (hn:szOf P t=some 1) (hl:o<c.length) (hc:c.set o v=c')
  (k:∀ w',Keep (fun k=>k=b) w w'→St w0 X (L.set j (.blk b c' T)) R w'→K (a.put d undef) w'):wpOp P ops (NoP Kn) i K a w:=by
 subst hc
 exact op_store1 hd hs j hj he hv hn hl k
theorem op_storeM {d:Option Tmp}(hd:dstAt ops i=d) {t:TypeId}{v:Value}{b o m:Nat}{c c' vs:List Value}{T:TypeId}(hs:St w0 X L R w) (j:Nat) (hj:L[j]? = some (.blk b c T)) (he:execAt ops i a=nextU (Instr.storeAt t (.pointer (some ⟨b,o,none⟩)) v))
  (hc:v.cells=vs.toArray) (hn:szOf P t=some m) (hm:vs.length=m) (hl:o+m≤c.length) (hone:∀ u∈vs,u.oneCell'=true) (hs':splice c o vs=c')
  (k:∀ w',Keep (fun k=>k=b) w w'→St w0 X (L.set j (.blk b c' T)) R w'→K (a.put d undef) w'):wpOp P ops (NoP Kn) i K a w:=by
 subst hm hs'
 exact op_storeN hd hs j hj he hc hn hl hone k
inductive FEq (P:Program) (d:Nat) (xs ys:List Value):List Field→Bool→Prop
 | nil:FEq P d xs ys [] true
 | cons {f : Field} {fs : List Field} {u v : Value} {b r : Bool} (hn : (f.name == "_") = false) (hu : ∀ w, (part f.type xs.toArray f.offset).run P w = .ok u w) (hv : ∀ w, (part f.type ys.toArray f.offset).run P w = .ok v w)
   (hb:∀ w,(Op.equalIn d f.type u v).run P w = .ok b w) (hr:FEq P d xs ys fs r):FEq P d xs ys (f::fs) (b && r)
theorem run_fields {d:Nat}{xs ys:List Value}{fs:List Field}{r:Bool}(h:FEq P d xs ys fs r) (w:World) :
  (forIn (m:=Sem) fs ((none:Option Bool),()) fun f _=>do
   if f.name ≠ "_" then
    let u ← part f.type xs.toArray f.offset
    let v ← part f.type ys.toArray f.offset
    let c ← Op.equalIn d f.type u v
    if (!c)=true then pure (ForInStep.done (some false,())) else pure (ForInStep.yield (none,()))
   else pure (ForInStep.yield (none,()))).run P w = .ok (if r then none else some false,()) w:=by
 induction h with
 | nil=>rfl
 | @cons f fs u v b r hn hu hv hb hr ih=>
  have hn' : f.name ≠ "_" := fun e => by rw [e] at hn; cases hn
  rw [List.forIn_cons]
  cases b with
  | false=>
   refine (rb (x:=ForInStep.done (some false,())) (w':=w) ?_).trans ?_
   ·rw [if_pos hn',rb (hu w),rb (hv w),rb (hb w)]
    rfl
   ·rfl
  | true=>
   refine (rb (x:=ForInStep.yield (none,())) (w':=w) ?_).trans ?_
   ·rw [if_pos hn',rb (hu w),rb (hv w),rb (hb w)]
    rfl
   ·simp only [Bool.true_and]
    exact ih
theorem run_equalS {d:Nat}{t:TypeId}{xs ys:List Value}{fs:List Field}{r:Bool}(hu:P.underlying t=some (.struct fs.toArray)) (hst:P.stoodInHeld t=false) (h:FEq P d xs ys fs r) :
  (Op.equalIn (d+1) t (.agg xs.toArray) (.agg ys.toArray)).run P w = .ok r w:=by
 unfold Op.equalIn
 rw [rb (run_underlying hu w)]
 simp only []
 refine (rb (x:=P) (w':=w) rfl).trans ?_
 simp only [hst,Bool.false_eq_true,if_false]
 rw [List.forIn_toArray]
 rw [rb (run_fields h w)]
 cases r<;>rfl
theorem yld_eqS {t:TypeId}{xs ys:List Value}{fs:List Field}{r:Bool}(xo yo:Operand) (he:execAt ops i a=nextV (do eqGuard .eql t xo yo (.agg xs.toArray) (.agg ys.toArray); binOp .eql t (.agg xs.toArray) (.agg ys.toArray)))
  (hq:P.eqGuardType P.depth t=false) (hu:P.underlying t=some (.struct fs.toArray)) (hst:P.stoodInHeld t=false) (h:FEq P 9999 xs ys fs r):Yld P ops Any i a w (.bool r):=by
 refine yld fun w'=>?_
 rw [he]
 refine run_nextV ?_
 refine (rb (x:=()) (w':=w') ?_).trans ?_
 ·unfold eqGuard
  simp [hq]
 ·show ((do pure (.bool (← Op.equal t (.agg xs.toArray) (.agg ys.toArray))):Sem Value)).run P w'=_
  unfold Op.equal Op.maxDepth
  rw [rb (run_equalS (d:=9999) hu hst h)]
  rfl
end
end Go.Mx
