/- own -/
import Derived.Test.YtemdbgmldljbpaaGreatDoorMk
import Derived.RangeFuncIn
set_option linter.unusedSimpArgs false
set_option linter.unusedVariables false
namespace Go.Mx
open Go.RowKit
section
variable {P : Program} {ops : Array Oper} {K Kn : Act → World → Prop} {a : Act} {w w' : World} {i : Nat} {w0 : World} {X : List Nat} {L R : List Ent} {Q : Exit → Act → World → Prop}
theorem St.objAt (h:St w0 X L R w) (j:Nat) {b:Nat}{o:Obj}(hj:L[j]? = some (.obj b o)):w.heap[b]? = some o:=(h.own _ (List.mem_of_getElem? hj)).1
theorem St.putObj (h:St w0 X L R w) (j:Nat) {b:Nat}{o:Obj}(o':Obj) (hj:L[j]? = some (.obj b o)):St w0 X (L.set j (.obj b o')) R (w.putObj b o'):=by
  have hb:=(h.own _ (List.mem_of_getElem? hj)).2 b rfl
  refine St.objSet h j hj rfl rfl rfl (by simp) (World.putObj_heap_same hb.1) fun k hk=>World.putObj_heap_other hk
def lmark (D:Nat):Deferred:={ target:=.collected D,args:=#[] }
structure LoopRec (rec:LoopState→Option Code→Loop) (tmps:Array Value) (ps:Array Tmp) (assign body:Code):Prop where
  tmps:∀ s p,(rec s p).tmps=tmps
  params:∀ s p,(rec s p).params=ps
  assign:∀ s p,(rec s p).assign=assign
  body:∀ s p,(rec s p).body=body
  state:∀ s p,(rec s p).state=s
  pending:∀ s p,(rec s p).pending=p
  upd:∀ s p s' p',{ rec s p with state:=s',pending:=p' } = rec s' p'
def RangeEnd (P:Program) (Q:Exit→Act→World→Prop) (a:Act) (l:Nat) (rec:LoopState→Option Code→Loop):Ending→World→Prop:=fun e w'=>
  ∃ v st pend,e = .returned v∧st ≠ .busy∧w'.heap[l]? = some (.loop (rec st pend))∧
    (match pend with
     | none=>Q .normal a (w'.putObj l (.loop (rec .exhausted none)))
     | some c=>c.wpIn (FR none) 0 P Q a (w'.putObj l (.loop (rec .exhausted (some c)))))
theorem wp_range {g:Operand}{ps:Array Tmp}{assign body:Code}{gf:Nat}{lb:Array Value}(hs:St w0 X L R w) (hg:a.eval g = .func (.func gf) #[] lb) (eg:∀ args w,(callFunc gf args).run P w = .ok (.enter gf args) w)
    (h:∀ (l D:Nat) (rec:LoopState→Option Code→Loop) (w1:World),LoopRec rec a.tmps ps assign body→St w0 X (.obj l (.loop (rec .ready none))::.obj D (.deferred (some []))::L) R w1 →
      ∀ R':Ending→World→Prop,(∀ e w',RangeEnd P Q { a with defers:=lmark D::a.defers } l rec e w'→R' e w')→Calls P gf (#[.func (.yield l) #[] #[]]++lb) w1 R') :
    (Code.rangeFunc g ps assign body).wpIn (FR none) 0 P Q a w:=by
  refine wpIn_rangeFunc ?_
  intro fn _
  obtain ⟨rec,hrec⟩ : ∃ rec:LoopState→Option Code→Loop,rec=fun st pe=>{ state:=st,pending:=pe,fn,tmps:=a.tmps,params:=ps,assign,body,defers:=w.heap.size }:=⟨_,rfl⟩
  have hok:LoopRec rec a.tmps ps assign body:=by subst hrec; exact ⟨fun _ _=>rfl,fun _ _=>rfl,fun _ _=>rfl,fun _ _=>rfl,fun _ _=>rfl,fun _ _=>rfl,fun _ _ _ _=>rfl⟩
  have hs1:=hs.newObj (.deferred (some []))
  have hs2:=hs1.newObj (.loop (rec .ready none))
  have hsz:({ w with heap:=w.heap.push (.deferred (some [])) } : World).heap.size=w.heap.size+1:=by simp
  rw [hsz] at hs2
  obtain ⟨W1,hW1⟩ : ∃ W1,(w.alloc (.deferred (some []))).alloc (.loop (rec .ready none))=W1:=⟨_,rfl⟩
  have hent:(Instr.enterLoop fn a.tmps ps assign body (FR none).round).run P w = .ok (w.heap.size+1,[lmark w.heap.size]) W1:=by
    subst hW1 hrec
    exact run_enterLoop_outer _ _ _ _ _
  refine ⟨w.heap.size+1,[lmark w.heap.size],W1,{ target:=.fn (.func gf) lb,args:=#[.func (.yield (w.heap.size+1)) #[] #[]] },W1,gf,#[.func (.yield (w.heap.size+1)) #[] #[]]++lb,W1,hent,?_,fun _ _=>trivial,?_,fun h=>by simp [FR,Fence.wide] at h,?_⟩
  · simp only [resolve,hg]
    simp [go_sem]
  · simp only [invoke]
    exact eg _ _
  · refine callsIn_wide.2 ?_
    refine h (w.heap.size+1) w.heap.size rec _ hok ?_ _ ?_
    · subst hW1; exact hs2
    · rintro e w' ⟨v,st,pend,rfl,hst,hl,hq⟩
      have hend:=run_endLoop (P:=P) hl (by rw [hok.state]; exact hst)
      rw [hok.pending] at hend
      have hu:({ state:=LoopState.exhausted,pending:=pend,fn:=(rec st pend).fn,tmps:=(rec st pend).tmps,params:=(rec st pend).params,assign:=(rec st pend).assign,body:=(rec st pend).body,defers:=(rec st pend).defers } : Loop)=rec .exhausted pend:=hok.upd st pend .exhausted pend
      rw [hu] at hend
      refine ⟨pend,_,hend,?_⟩
      cases pend with
      | none=>exact hq
      | some c=>exact hq
theorem range_n {a0 a1:Act}{l:Nat}{rec:LoopState→Option Code→Loop}{R':Ending→World→Prop}{v:Value}(hR:∀ e w',RangeEnd P Q a0 l rec e w'→R' e w') (ha:a0=a1) (hs:St w0 X L R w) (j:Nat) (hj:L[j]? = some (.obj l (.loop (rec .ready none))))
    (k:∀ w',St w0 X (L.set j (.obj l (.loop (rec .exhausted none)))) R w'→Q .normal a1 w'):R' (.returned v) w:=
  by subst ha; exact hR _ _ ⟨v,.ready,none,rfl,(fun h=>nomatch h),hs.objAt j hj,k _ (hs.putObj j _ hj)⟩
theorem range_j {a0 a1:Act}{l:Nat}{rec:LoopState→Option Code→Loop}{R':Ending→World→Prop}{v:Value}(c:Code) (hR:∀ e w',RangeEnd P Q a0 l rec e w'→R' e w') (ha:a0=a1) (hs:St w0 X L R w) (j:Nat) (hj:L[j]? = some (.obj l (.loop (rec .done (some c)))))
    (k:∀ w',St w0 X (L.set j (.obj l (.loop (rec .exhausted (some c))))) R w'→c.wpIn (FR none) 0 P Q a1 w'):R' (.returned v) w:=by
  subst ha
  exact hR _ _ ⟨v,.done,some c,rfl,(fun h=>nomatch h),hs.objAt j hj,k _ (hs.putObj j _ hj)⟩
def RoundEnd (P:Program) (l:Nat) (rec:LoopState→Option Code→Loop) (K:Bool→World→Prop) (e:Exit) (_:Act) (w':World):Prop:=
  w'.heap[l]? = some (.loop (rec .busy none))∧
    (match e with
     | .normal=>K true (w'.putObj l (.loop (rec .ready none)))
     | .ret=>K false (w'.putObj l (.loop (rec .done (some .ret))))
     | .exit id=>K false (w'.putObj l (.loop (rec .done (some (.exit id)))))
     | _=>False)
theorem round_n {l:Nat}{rec:LoopState→Option Code→Loop}{K2:Bool→World→Prop}{Qr:Exit→Act→World→Prop}(hq:∀ e a' w',RoundEnd P l rec K2 e a' w'→Qr e a' w') (hs:St w0 X L R w) (j:Nat) (hj:L[j]? = some (.obj l (.loop (rec .busy none))))
    (k:∀ w',St w0 X (L.set j (.obj l (.loop (rec .ready none)))) R w'→K2 true w'):Qr .normal a w:=hq _ _ _ ⟨hs.objAt j hj,k _ (hs.putObj j _ hj)⟩
theorem round_r {l:Nat}{rec:LoopState→Option Code→Loop}{K2:Bool→World→Prop}{Qr:Exit→Act→World→Prop}(hq:∀ e a' w',RoundEnd P l rec K2 e a' w'→Qr e a' w') (hs:St w0 X L R w) (j:Nat) (hj:L[j]? = some (.obj l (.loop (rec .busy none))))
    (k:∀ w',St w0 X (L.set j (.obj l (.loop (rec .done (some .ret))))) R w'→K2 false w'):Qr .ret a w:=hq _ _ _ ⟨hs.objAt j hj,k _ (hs.putObj j _ hj)⟩
theorem op_yield {d:Option Tmp}(hd:dstAt ops i=d) (hs:St w0 X L R w) (j:Nat) {l:Nat}{rec:LoopState→Option Code→Loop}{tmps tm:Array Value}{ps:Array Tmp}{assign body:Code}(hj:L[j]? = some (.obj l (.loop (rec .ready none))))
    (hok:LoopRec rec tmps ps assign body) (args:Array Value) (he:execAt ops i a=Instr.yield l args) (hn:args.size=ps.size) (htm:(ps.zip args).foldl (fun t (p,v)=>t.setIfInBounds p v) tmps=tm)
    (hw:((ops[i]?).map fun o=>Region.wanted o (yielded ops a.tmps))=some true)
    (h:∀ K1:Act→World→Prop,(∀ a1 w1 j1 L1 R1,St w0 X L1 R1 w1→L1[j1]? = some (.obj l (.loop (rec .ready none)))→(∀ w2 Qr,St w0 X (L1.set j1 (.obj l (.loop (rec .busy none)))) R1 w2 →
        (∀ e a' w',RoundEnd P l rec (fun b w'=>K (a.put d (.bool b)) w') e a' w'→Qr e a' w')→body.wpIn (FR (some l)) 0 P Qr a1 w2)→K1 a1 w1) →
      assign.wpIn (FR (some l)) 0 P (Exit.then K1 (fun _ _ _=>False)) { tmps:=tm,defers:=[] } w):RdOp P ops i K a w:=by
  subst hd
  cases ho:ops[i]? with
  | none=>rw [ho] at hw; cases hw
  | some o=>
    rw [ho] at hw
    have hw':Region.wanted o (yielded ops a.tmps)=true:=Option.some.inj hw
    have he':execOp a.eval o=Instr.yield l args:=by
      unfold execAt at he
      rw [ho] at he
      simp only [hw',if_true] at he
      exact he
    have hl:=hs.objAt j hj
    have hy:=run_yield (P:=P) (args:=args) hl (by rw [hok.params]; exact hn)
    rw [hok.params,hok.tmps,hok.assign,hok.body,htm] at hy
    have hdst:dstAt ops i=o.dst:=by simp [dstAt,ho]
    refine ⟨o,l,_,_,_,_,_,ho,hw',by rw [he']; exact hy,roundIn_of_wpIn trivial (h _ fun a1 w1 j1 L1 R1 hs1 hj1 hb=>?_)⟩
    have hl1:=hs1.objAt j1 hj1
    have hbusy:∀ s p s',({ state:=s',pending:=(rec s p).pending,fn:=(rec s p).fn,tmps:=(rec s p).tmps,params:=(rec s p).params,assign:=(rec s p).assign,body:=(rec s p).body,defers:=(rec s p).defers } : Loop)=rec s' p:=fun s p s'=>by
      rw [hok.pending]
      exact hok.upd s p s' p
    have hend':∀ s p s' p',({ state:=s',pending:=p',fn:=(rec s p).fn,tmps:=(rec s p).tmps,params:=(rec s p).params,assign:=(rec s p).assign,body:=(rec s p).body,defers:=(rec s p).defers } : Loop)=rec s' p':=fun s p s' p'=>hok.upd s p s' p'
    have hbr:=run_beginRound (P:=P) hl1 (hok.state _ _)
    rw [hbusy] at hbr
    refine ⟨_,hbr,hb _ _ (hs1.putObj j1 _ hj1) ?_⟩
    rintro e a' w' ⟨hl2,hk⟩
    have hend:∀ jump:Option Code,(Instr.endRound l jump).run P w' = .ok (.bool jump.isNone) (w'.putObj l (.loop (rec (if jump.isNone then .ready else .done) jump))):=fun jump=>by
      have:=run_endRound (P:=P) jump hl2
      rw [hend'] at this
      exact this
    cases e with
    | normal=>exact ⟨_,_,hend none,⟨_,rfl,by rw [← hdst]; exact hk⟩⟩
    | ret=>exact ⟨_,_,hend (some .ret),⟨_,rfl,by rw [← hdst]; exact hk⟩⟩
    | exit id=>exact ⟨_,_,hend (some (.exit id)),⟨_,rfl,by rw [← hdst]; exact hk⟩⟩
    | goto t=>exact hk.elim
    | panic c=>exact hk.elim
    | outgrown=>exact hk.elim
theorem calls_m {f:FuncId}{fn:Func}{c:Code}{args:Array Value}{R':Ending→World→Prop}(hf:P.funcs[f]? = some fn) (hb:fn.body=some c)
    (h:∀ Q:Exit→Act→World→Prop,(∀ a w,LeavesInM (FR none) 0 P fn a.tmps R' a.defers .returning w→Q .ret a w)→(∀ a w,LeavesInM (FR none) 0 P fn a.tmps R' a.defers .returning w→Q .normal a w)→c.wpIn (FR none) 0 P Q { tmps:=args++Array.replicate (fn.ntmps-args.size) undef,defers:=[] } w):Calls P f args w R':=
  callsIn_wide.1 (callsIn_of_wp_marks (n:=0) hf hb trivial (h _ (fun _ _ h=>h) (fun _ _ h=>h)))
theorem leaves_mark {fn:Func}{tmps:Array Value}{R':Ending→World→Prop}{D:Nat}{ds:List Deferred}(hs:St w0 X L R w) (j:Nat) (hj:L[j]? = some (.obj D (.deferred (some []))))
    (k:∀ w',St w0 X (L.set j (.obj D (.deferred none))) R w'→LeavesInM (FR none) 0 P fn tmps R' ds .returning w'):LeavesInM (FR none) 0 P fn tmps R' (lmark D::ds) .returning w:=
  ⟨(fun h=>nomatch h),.inl ⟨D,_,rfl,run_takeDeferred (hs.objAt j hj),k _ (hs.putObj j _ hj)⟩⟩
theorem leaves_end {fn:Func}{tmps:Array Value}{R':Ending→World→Prop}{v:Value}(h:(results fn tmps).run P w = .ok v w) (hR:R' (.returned v) w):LeavesInM (FR none) 0 P fn tmps R' [] .returning w:=⟨v,h,hR⟩
end
end Go.Mx

/- own -/
set_option linter.unusedSimpArgs false
set_option linter.unusedVariables false
namespace Go.Mx
open Go.RowKit
section
variable {P : Program} {ops : Array Oper} {K Kn : Act → World → Prop} {a : Act} {w w' : World} {i : Nat} {w0 : World} {X : List Nat} {L R : List Ent} {Q : Exit → Act → World → Prop}
theorem op_inline {d:Option Tmp}(hd:dstAt ops i=d) {f:FuncId}{args:Array Value}(he:∀ w,(execAt ops i a).run P w = .ok (.enter f args) w)
  (h:∀ R':Ending→World→Prop,(∀ v w',K (a.put d v) w'→R' (.returned v) w')→Calls P f args w R'):wpOp P ops (NoP Kn) i K a w:=
 wpOp_call hd he (h (fun e w'=>∃ v,e = .returned v∧K (a.put d v) w') fun v w' hk=>⟨v,rfl,hk⟩) fun _ _ hr=>hr
end
end Go.Mx
